import PyProof.Rows.All
import Wide.All
import OpenK.AllK
import Wide.FinOn
import PySem.Challenge.RW_oh0023_01
open PySem PySem.W PySem.W.X PyProof.Rows
set_option Elab.async false
set_option maxRecDepth 100000
set_option linter.all false
set_option linter.unusedVariables false
set_option linter.unusedSimpArgs false
namespace Mine
-- Top1
noncomputable abbrev P := PySem.Challenge.rw_oh0023_01.row.prog
/-- the text's statements but its four names -/
noncomputable def vwBody : List Stmt := List.append ((P.main.body.drop 1).take 1) (List.append ((P.main.body.drop 3).take 22) (List.append ((P.main.body.drop 26).take 1) (P.main.body.drop 28)))
noncomputable def vw : Program := { P with main := { P.main with body := vwBody } }
noncomputable def ch (n : Nat) : WData := .str ⟨#[n]⟩
noncomputable def fmLv : List (Str × WData) := [(Str.ofString "_filemode_table", .tuple [
  .tuple [.tuple [.int 40960, ch 108], .tuple [.int 49152, ch 115], .tuple [.int 32768, ch 45], .tuple [.int 24576, ch 98], .tuple [.int 16384, ch 100], .tuple [.int 8192, ch 99], .tuple [.int 4096, ch 112]],
  .tuple [.tuple [.int 256, ch 114]], .tuple [.tuple [.int 128, ch 119]], .tuple [.tuple [.int 2112, ch 115], .tuple [.int 2048, ch 83], .tuple [.int 64, ch 120]],
  .tuple [.tuple [.int 32, ch 114]], .tuple [.tuple [.int 16, ch 119]], .tuple [.tuple [.int 1032, ch 115], .tuple [.int 1024, ch 83], .tuple [.int 8, ch 120]],
  .tuple [.tuple [.int 4, ch 114]], .tuple [.tuple [.int 2, ch 119]], .tuple [.tuple [.int 513, ch 116], .tuple [.int 512, ch 84], .tuple [.int 1, ch 120]]])]
/-- the head by one check of the top, in place of its pieces -/
local macro_rules | `(tactic| o_head $H) => `(tactic| (
  refine holds_open (q := vw) (loose := [Str.ofString "_filemode_table"]) (Xt := fun s => xlAt vw fmLv s && recOk (RowW.records (OpenRow.toRowW PySem.Challenge.rw_oh0023_01.row)) s) (XP := XL vw fmLv)
    (Yf := Hook.obs $H) (Ya := Hook.val $H) (YP := Hook.says $H) (N := 1600) ?hl (Hook.of $H) (Hook.keeps $H) (fun s e => xl_of s (Bool.and_eq_true_iff.mp e).1) XL.keeps (by rfl) (by rfl) (by rfl)
    (fun s e => recFacts_of (Bool.and_eq_true_iff.mp e).2) (by rfl) (by first | assumption | decide +kernel) (by decide +kernel) ⟨rfl, rfl, rfl, rfl, rfl, by decide +kernel⟩ ?hw ?hc
  case hl => (intro w; kernel_rfl)))
set_option maxHeartbeats 8000000 in
open_top hd for PySem.Challenge.rw_oh0023_01
local macro_rules | `(tactic| walk_at $s:str) => `(tactic| k_extra $s)
-- M0
section
noncomputable def AA (n : Nat) : Around := { handled := none, depth := 100 * n, frames := none, guards := none, units := 1000 * n }
theorem fill9 : (∀ p, hd.heap_39 p = hd.heap_39 p) ∧ PySem.Challenge.rw_oh0023_01 = PySem.Challenge.rw_oh0023_01 := by w_top off; k_fill; exact ⟨fun _ => rfl, rfl⟩
theorem wpAny_le {α : Type} {M : Model} {A A' : Around} {t : Sem α} {Q : α → Shared → Prop} {E : Value → Shared → Prop} {s : Shared} (h : wpAny M A' t Q E s)
    (hh : A.handled = A'.handled) (hd : A.depth ≤ A'.depth) (hf : A'.frames = none) (hg : A'.guards = none) (hu : A.units ≤ A'.units) : wpAny M A t Q E s :=
  fun Γ p hΓ => h Γ p ⟨hΓ.1.trans hh, Nat.le_trans hΓ.2.1 hd, fun l hl => (by rw [hf] at hl; cases hl), fun g hl => (by rw [hg] at hl; cases hl), Nat.le_trans hΓ.2.2.2.2 hu⟩
/-- into a plain def of the written part: its frame stands over the caller's whole heap -/
theorem enterK {prog : Program} {w : World} {A : Around} {s : Shared} {K : Frag} {R : Result → Shared → Prop} {name qual : Str} {params : Arguments} {body : List Stmt} {scope : Scope} {dV kV doc pm cdv ct oc : Value}
    {an od : Option Addr} {osl : Array (Option Value)} {f : Addr} {args : Args} {binds : List (Str × Value)}
    (X : K.In s.heap) (hlim : s.heap.NoLimit) (ho : K.lookup f = some ⟨oc, od, .func (fnOf name qual params body scope dV kV doc pm an cdv ct), osl⟩) (hcd : codeIn K cdv qual = true) (hroom : A.depth < recursionLimit)
    (hbind : BindsTo s (fnOf name qual params body scope dV kV doc pm an cdv ct) args binds) (hloc : ∀ y ∈ binds, scope.names.lookup y.1 = some .local)
    (h : ∀ h₁, Fr s.heap s.heap.objs.size h₁ (fun y => binds.reverse.lookup y) →
      wpAny (model prog w) (A.deeper (envOf qual scope s.heap.objs.size f cdv)) (execs body (envOf qual scope s.heap.objs.size f cdv))
        (fun fl s' => R (.ok (.ret (match fl with | .ret v => v | _ => .none))) s') (fun _ _ => False) { s with heap := h₁, toks := s.toks + binds.length })
    (hco : scope.isCoroutine = false) (hgen : scope.isGenerator = false) (hk : scope.kind = .function)
    (hcell : ∀ x ∈ scope.names, x.2 ≠ .cell) : codeAny (model prog w) A (.call (.ref f) args) R s :=
  codeAny_call_def (fd := fnOf name qual params body scope dV kV doc pm an cdv ct) (body := body) (binds := binds) hroom (X _ _ ho) rfl hlim (codeRec_of X hcd) rfl hbind hcell hloc
    (fun h₁ hns hk₁ => wpAny_mono (h h₁ ⟨hns, hk₁, Nat.le_refl _⟩) (fun _ _ q => q) (fun _ _ q => q.elim)) hco hgen hk
/-- what the text's top left, at a heap -/
structure Bs (w : World) (mg mb : Str → Option Value) (h : Heap) : Prop where
  x : (hd.heap_39 w.params).In h
  t : ∃ loose mean, Top topProg loose mean mg mb h
theorem Bs.keeps {w : World} {mg mb : Str → Option Value} {h h' : Heap} (B : Bs w mg mb h) (k : ∀ b o, h.get? b = some o → h'.get? b = some o) : Bs w mg mb h' :=
  ⟨B.x.keeps k, let ⟨l, m, T⟩ := B.t; ⟨l, m, T.keeps k⟩⟩
theorem keeps_fr {s : Shared} {h : Heap} {L : Addr} {m : Str → Option Value} {tk : Nat} (F : Fr s.heap L h m) : Keeps s { s with heap := h, toks := tk } := ⟨h, tk, rfl, F.keep⟩
theorem fr_keeps {h₀ h h' : Heap} {L : Addr} {m : Str → Option Value} (F : Fr h₀ L h m) (k : ∀ b o, h.get? b = some o → h'.get? b = some o) : Fr h₀ L h' m :=
  ⟨F.ns.keeps k, fun b o e => k _ _ (F.keep b o e), F.above⟩
theorem news_keeps {h₀ h h' : Heap} {L : Addr} {news : List (Addr × Obj)} (N : News h₀ L h news) (k : ∀ b o, h.get? b = some o → h'.get? b = some o) : News h₀ L h' news :=
  fun p hp => ⟨k _ _ (N p hp).1, (N p hp).2⟩
/-- hide a large goal while things are taken apart -/
theorem by_G {P : Prop} (h : ∀ G : Prop, (P → G) → G) : P := h P id
theorem fm_lo (x k : Int) (hk : 0 < k) : 0 ≤ x.fmod k ∧ x.fmod k < k := ⟨Int.fmod_nonneg_of_pos x hk, Int.fmod_lt_of_pos x hk⟩
end
-- C1
section
theorem lines_C1_1 : True := by
  k_with_none
  k_with "mine in" => ((case k6 => k_is); (case k7 => k_is); (case k8 => decide); (case k9 => exact BindsTo.of_eq rfl); (case kB => exact locs rfl); (case c2 => exact rfl); (case c3 => exact rfl); (case c4 => exact rfl); (case c5 => decide))
  trivial
noncomputable def nameOf (y : Int) : Str := if y.fmod 5 = 0 then Str.ofString "a" else if y.fmod 5 = 1 then Str.ofString "b" else if y.fmod 5 = 2 then Str.ofString "ab" else if y.fmod 5 = 3 then Str.ofString "ba" else Str.ofString ""
noncomputable def NamePost (y : Int) (s : Shared) (v : Value) (s' : Shared) : Prop := (∃ t, v = .str (nameOf y) t) ∧ Keeps s s'
theorem name_post {y : Int} {s : Shared} {h : Heap} {L : Addr} {m : Str → Option Value} {tk : Nat} {v : Str} {t : Tok} (F : Fr s.heap L h m) (e : v = nameOf y) : NamePost y s (.str v t) { s with heap := h, toks := tk } :=
  ⟨⟨t, by rw [e]⟩, keeps_fr F⟩
set_option maxHeartbeats 4000000 in
theorem c_name0 {w : World} {s : Shared} {mg mb : Str → Option Value} (B : Bs w mg mb s.heap) (y : Int) (t1 : Tok) :
    wpAny (model P w) (AA 9) (call (.ref 82) [.int y t1]) (NamePost y s) (fun _ _ => False) s := by
  have X := B.x
  obtain ⟨loose, mean, T⟩ := B.t
  refine wpAny_call ?_
  refine' enterK (binds := [(Str.ofString "y", .int y t1)]) X T.nolimit ?k6 ?k7 ?k8 ?k9 ?kB ?_ ?c2 ?c3 ?c4 ?c5
  walk_at "mine in"
  intro h₁ F
  have N : News s.heap s.heap.objs.size h₁ [] := News.nil
  (try dsimp only)
  (try k_fold)
  k_steps
  all_goals (refine name_post (by assumption) ?_; unfold nameOf; (repeat' (first | rw [if_pos (by omega)] | rw [if_neg (by omega)])))
theorem use_name {w : World} {s : Shared} {A : Around} {h₀ : Heap} {L : Addr} {m mg mb : Str → Option Value} {news : List (Addr × Obj)} {Q E : Value → Shared → Prop} {y : Int} {t1 : Tok}
    (F : Fr h₀ L s.heap m) (N : News h₀ L s.heap news) (B : Bs w mg mb h₀) (hh : A.handled = none) (hd : A.depth ≤ 900) (hu : A.units ≤ 9000)
    (h : ∀ h' tk t, Fr h₀ L h' m → News h₀ L h' news → Q (.str (nameOf y) t) { s with heap := h', toks := tk }) : wpAny (model P w) A (call (.ref 82) [.int y t1]) Q E s :=
  wpAny_mono (wpAny_le (c_name0 (B.keeps F.keep) y t1) hh hd rfl rfl hu) (fun v s' q => by
    obtain ⟨⟨t, rfl⟩, h', tk, rfl, k⟩ := q
    exact h h' tk t (fr_keeps F k) (news_keeps N k)) (fun _ _ q => q.elim)
/-! the rights -/
noncomputable def kindOf (k : Int) : Int := if ([1, 2, 4, 6, 8, 10, 12].any fun x => x == k) = true then k else 0
noncomputable def rightsOf (shape : Str) (mode : Int) : Option Int := if (shape != Str.ofString "rights") = true then none else some (kindOf (mode.fdiv 4096) * 4096 + mode.fmod 4096)
noncomputable def OptInt (v : Value) : Option Int → Prop
  | none => v = .none
  | some i => ∃ t, v = .int i t
noncomputable def RightsPost (shape : Str) (mode : Int) (s : Shared) (v : Value) (s' : Shared) : Prop := OptInt v (rightsOf shape mode) ∧ Keeps s s'
theorem rights_post {shape : Str} {mode : Int} {s : Shared} {h : Heap} {L : Addr} {m : Str → Option Value} {tk : Nat} {v : Value} (F : Fr s.heap L h m) (e : OptInt v (rightsOf shape mode)) : RightsPost shape mode s v { s with heap := h, toks := tk } :=
  ⟨e, keeps_fr F⟩
set_option maxHeartbeats 4000000 in
theorem c_rights0 {w : World} {s : Shared} {mg mb : Str → Option Value} (B : Bs w mg mb s.heap) (shape : Str) (mode : Int) (t1 t2 : Tok) :
    wpAny (model P w) (AA 9) (call (.ref 96) [.str shape t1, .int mode t2]) (RightsPost shape mode s) (fun _ _ => False) s := by
  have X := B.x
  obtain ⟨loose, mean, T⟩ := B.t
  refine wpAny_call ?_
  refine' enterK (binds := [(Str.ofString "shape", .str shape t1), (Str.ofString "mode", .int mode t2)]) X T.nolimit ?k6 ?k7 ?k8 ?k9 ?kB ?_ ?c2 ?c3 ?c4 ?c5
  walk_at "mine in"
  intro h₁ F
  have N : News s.heap s.heap.objs.size h₁ [] := News.nil
  (try dsimp only)
  (try k_fold)
  k_steps
  all_goals (refine rights_post (by assumption) ?_; unfold rightsOf)
  · rw [if_pos (by assumption)]; exact rfl
  · rw [if_neg (by simp [*])]; unfold kindOf; rw [if_pos (by assumption)]; exact ⟨_, rfl⟩
  · rw [if_neg (by simp [*])]; unfold kindOf; rw [if_neg (by simp only [*]; decide)]; exact ⟨_, rfl⟩
theorem use_rights {w : World} {s : Shared} {A : Around} {h₀ : Heap} {L : Addr} {m mg mb : Str → Option Value} {news : List (Addr × Obj)} {Q E : Value → Shared → Prop} {shape : Str} {mode : Int} {t1 t2 : Tok}
    (F : Fr h₀ L s.heap m) (N : News h₀ L s.heap news) (B : Bs w mg mb h₀) (hh : A.handled = none) (hd : A.depth ≤ 900) (hu : A.units ≤ 9000)
    (h : ∀ v h' tk, OptInt v (rightsOf shape mode) → Fr h₀ L h' m → News h₀ L h' news → Q v { s with heap := h', toks := tk }) : wpAny (model P w) A (call (.ref 96) [.str shape t1, .int mode t2]) Q E s :=
  wpAny_mono (wpAny_le (c_rights0 (B.keeps F.keep) shape mode t1 t2) hh hd rfl rfl hu) (fun v s' q => by
    obtain ⟨e, h', tk, rfl, k⟩ := q
    exact h v h' tk e (fr_keeps F k) (news_keeps N k)) (fun _ _ q => q.elim)
/-! a file -/
noncomputable def sRights : Str := Str.ofString "rights"
noncomputable def sAlone : Str := Str.ofString "alone"
noncomputable def sNumber : Str := Str.ofString "number"
noncomputable def sOpen : Str := Str.ofString "open"
noncomputable def sEmpty : Str := Str.ofString "empty"
noncomputable def shapeOf (x : Int) : Str := if x.fmod 5 < 3 then Str.ofString "rights" else if x.fmod 5 = 3 then Str.ofString "alone" else
  if ((x.fdiv 5).fdiv 5).fmod 3 = 0 then Str.ofString "number" else if ((x.fdiv 5).fdiv 5).fmod 3 = 1 then Str.ofString "open" else Str.ofString "empty"
noncomputable def modeOf (x one other : Int) : Int := if x.fmod 5 = 0 then one else if x.fmod 5 = 1 then other else if x.fmod 5 = 2 then ((x.fdiv 5).fdiv 5).fmod 16 * 4096 + one.fmod 4096 else one
noncomputable def nmOf (x : Int) : Str := if x.fmod 5 = 3 then (if (nameOf (x.fdiv 5) == Str.ofString "") = true then Str.ofString "a" else nameOf (x.fdiv 5)) else nameOf (x.fdiv 5)
noncomputable def tupleO (vs : Array Value) : Obj := ⟨.type "tuple", none, .seq vs 0, #[]⟩
noncomputable def FilePost (x one other : Int) (s : Shared) (v : Value) (s' : Shared) : Prop :=
  (∃ a t1 t2 t3, v = .ref a ∧ s.heap.get? a = none ∧ s'.heap.get? a = some (tupleO #[.str (shapeOf x) t1, .int (modeOf x one other) t2, .str (nmOf x) t3])) ∧ Keeps s s'
theorem file_post {s : Shared} {x one other i : Int} {h : Heap} {L : Addr} {m : Str → Option Value} {tk t1 t2 t3 a : Nat} {news : List (Addr × Obj)} {sh nm : Str} (F : Fr s.heap L h m) (N : News s.heap L h ((a, { cls := .type "tuple", data := .seq #[.str sh t1, .int i t2, .str nm t3] }) :: news)) 
   (e1 : sh = shapeOf x) (e2 : i = modeOf x one other) (e3 : nm = nmOf x) : FilePost x one other s (.ref a) { s with heap := h, toks := tk } :=
  ⟨⟨a, t1, t2, t3, rfl, N.fresh (.head _), by rw [← e1, ← e2, ← e3]; exact (N _ (.head _)).1⟩, keeps_fr F⟩
theorem lines_C1_2 : True := by
  k_with "call ref" => (k_here; (with_reducible show wpAny _ _ (call (Value.ref 82) [Value.int _ _]) _ _ _); refine' use_name ?zqF ?zqN ?zqB rfl (Nat.le_of_ble_eq_true rfl) (Nat.le_of_ble_eq_true rfl) ?_; (case zqF => k_asm); (case zqN => k_asm); (case zqB => assumption); intro h' tk' t' F' N'; (try k_sweep))
  trivial
set_option maxHeartbeats 4000000 in
theorem c_file0 {w : World} {s : Shared} {mg mb : Str → Option Value} (B : Bs w mg mb s.heap) (x one other : Int) (t1 t2 t3 : Tok) :
    wpAny (model P w) (AA 8) (call (.ref 89) [.int x t1, .int one t2, .int other t3]) (FilePost x one other s) (fun _ _ => False) s := by
  have X := B.x
  obtain ⟨loose, mean, T⟩ := B.t
  refine wpAny_call ?_
  refine' enterK (binds := [(Str.ofString "x", .int x t1), (Str.ofString "one", .int one t2), (Str.ofString "other", .int other t3)]) X T.nolimit ?k6 ?k7 ?k8 ?k9 ?kB ?_ ?c2 ?c3 ?c4 ?c5
  walk_at "mine in"
  intro h₁ F
  have N : News s.heap s.heap.objs.size h₁ [] := News.nil
  (try dsimp only)
  (try k_fold)
  k_steps
  all_goals (refine file_post (by assumption) (by assumption) ?_ ?_ ?_)
  all_goals (first | unfold shapeOf | unfold modeOf | unfold nmOf)
  all_goals (repeat' (first | rw [if_pos (by first | omega | assumption)] | rw [if_neg (by first | omega | (simp only [*]; decide))]))
theorem use_file {w : World} {s : Shared} {A : Around} {h₀ : Heap} {L : Addr} {m mg mb : Str → Option Value} {news : List (Addr × Obj)} {Q E : Value → Shared → Prop} {x one other : Int} {t1 t2 t3 : Tok}
    (F : Fr h₀ L s.heap m) (N : News h₀ L s.heap news) (B : Bs w mg mb h₀) (hh : A.handled = none) (hd : A.depth ≤ 800) (hu : A.units ≤ 8000)
    (h : ∀ a u1 u2 u3 h' tk, s.heap.get? a = none → (∀ b o, s.heap.get? b = some o → h'.get? b = some o) → Fr h₀ L h' m → News h₀ L h' news → h'.get? a = some (tupleO #[.str (shapeOf x) u1, .int (modeOf x one other) u2, .str (nmOf x) u3]) → Q (.ref a) { s with heap := h', toks := tk }) :
    wpAny (model P w) A (call (.ref 89) [.int x t1, .int one t2, .int other t3]) Q E s :=
  wpAny_mono (wpAny_le (c_file0 (B.keeps F.keep) x one other t1 t2 t3) hh hd rfl rfl hu) (fun v s' q => by
    obtain ⟨⟨a, u1, u2, u3, rfl, hn, ha⟩, h', tk, rfl, k⟩ := q
    exact h a u1 u2 u3 h' tk hn k (fr_keeps F k) (news_keeps N k) ha) (fun _ _ q => q.elim)
end
-- L1
section
/-! loops over tuples -/
noncomputable def Parked (p : Prop) : Prop := p
theorem park {p : Prop} (h : Parked p) : p := h
section
variable {prog : Program} {w : World} {A : Around} {E : Value → Shared → Prop} {s : Shared}
theorem next_tuple_item {it t : Addr} {i : Nat} {items : Array Value} {x : Value} {Q : Value → Shared → Prop} (hit : s.heap.IsTupleIter it t i)
    (ht : s.heap.IsTuple t items) (hx : items[i]? = some x)
    (hQ : ∀ h', h'.IsTupleIter it t (i + 1) → Heap.SameBut it s.heap h' → Q x { s with heap := h' }) :
    wpAny (model prog w) A (Builtin.SmallTypes.nextOf (.ref it)) Q E s := by
  obtain ⟨o, ho, hc, hd⟩ := id hit
  obtain ⟨ol, hol, _, nl, hdl⟩ := ht
  unfold Builtin.SmallTypes.nextOf
  refine wpAny_bind (wpAny_callSpecial?_slot (name := Str.ofString "__next__") hit.typeIs F.slot_tuple_iterator_next
    (wpAny_call_entry F.slot_tuple_iterator_next hit.typeIs F.entry_tuple_iterator_next ?_ (F.args_tuple_iterator_next_1 _)))
  show wpAny _ _ (field (.ref it) 0 >>= _) _ _ s
  refine wpAny_bind (wpAny_field ho hd (x := .ref t) rfl ?_)
  show wpAny _ _ (if (Value.ref t == Value.none) = true then _ else _) _ _ s
  rw [if_neg (show ¬ ((Value.ref t == Value.none) = true) from Bool.false_ne_true)]
  show wpAny _ _ (field (.ref it) 1 >>= _) _ _ s
  refine wpAny_bind (wpAny_field ho hd (x := .int i 0) rfl ?_)
  show wpAny _ _ (seqItems? (.ref t) >>= _) _ _ s
  refine wpAny_bind (wpAny_seqItems hol hdl ?_)
  simp only [Int.toNat_natCast, hx]
  refine wpAny_bind (wpAny_setField ho hd (by simp) (wpAny_pure ⟨x, rfl, wpAny_pure (hQ _ ?_ (Heap.SameBut.update ..))⟩))
  exact ⟨_, Heap.get?_update_self _ ho (Obj.isFreed_of_fields (Obj.data_mapFields hd _)), (Obj.cls_mapFields ..).trans hc, by
    rw [Obj.data_mapFields hd]; simp [rawInt]⟩
theorem next_tuple_end {it t : Addr} {i : Nat} {items : Array Value} {Q : Value → Shared → Prop} (hh : A.handled = none)
    (hit : s.heap.IsTupleIter it t i) (ht : s.heap.IsTuple t items) (hx : items[i]? = none)
    (hE : ∀ h' e, Heap.ExtBut it s.heap h' → (∃ o, h'.get? e = some o ∧ o.cls = .type "StopIteration") → E (.ref e) { s with heap := h' }) :
    wpAny (model prog w) A (Builtin.SmallTypes.nextOf (.ref it)) Q E s := by
  obtain ⟨o, ho, hc, hd⟩ := id hit
  obtain ⟨ol, hol, _, nl, hdl⟩ := ht
  unfold Builtin.SmallTypes.nextOf
  refine wpAny_bind (wpAny_callSpecial?_slot (name := Str.ofString "__next__") hit.typeIs F.slot_tuple_iterator_next
    (wpAny_call_entry F.slot_tuple_iterator_next hit.typeIs F.entry_tuple_iterator_next ?_ (F.args_tuple_iterator_next_1 _)))
  show wpAny _ _ (field (.ref it) 0 >>= _) _ _ s
  refine wpAny_bind (wpAny_field ho hd (x := .ref t) rfl ?_)
  show wpAny _ _ (if (Value.ref t == Value.none) = true then _ else _) _ _ s
  rw [if_neg (show ¬ ((Value.ref t == Value.none) = true) from Bool.false_ne_true)]
  show wpAny _ _ (field (.ref it) 1 >>= _) _ _ s
  refine wpAny_bind (wpAny_field ho hd (x := .int i 0) rfl ?_)
  show wpAny _ _ (seqItems? (.ref t) >>= _) _ _ s
  refine wpAny_bind (wpAny_seqItems hol hdl ?_)
  simp only [Int.toNat_natCast, hx]
  refine wpAny_bind (wpAny_rule (wpAny_bind (wpAny_setField ho hd (by simp) ?_)))
  show wpAny _ _ (newExc (.type "StopIteration") [] >>= _) _ _ _
  refine wpAny_bind ?_
  simp only [newExc, newTuple]
  refine wpAny_bind (wpAny_newObj_type ?_ (by size_fits))
  refine wpAny_bind (m := firstArgMember _ _) (wpAny_of_eq (a := Value.none) (by first | rfl | (simp only [firstArgMember]; rfl)) ?_)
  refine wpAny_newObj_type ?_ (by size_fits)
  simp only [raiseNew]
  refine wpAny_bind (wpAny_handled ?_)
  first | rw [show A.in1.handled = none from hh] | rw [hh]
  refine wpAny_bind (wpAny_pure (wpAny_throw ?_))
  exact hE _ _ (((Heap.SameBut.update ..).extBut.push _).push _) ⟨_, Heap.get?_push_size _ rfl, rfl⟩
theorem letGo_tupleiter {elts : List Expr} {x1 : Nat} {pos : Pos} {I t T : Addr} {i : Nat} {Q : Unit → Shared → Prop} (hit : s.heap.IsTupleIter I t i) (hQ : Q () s) :
    wpAny (model prog w) A (letOwnedTupleGo (.Tuple elts x1 pos) (.ref I) (.ref T)) Q E s := by
  obtain ⟨o, ho, hc, hd⟩ := hit
  unfold letOwnedTupleGo
  refine wpAny_bind (wpAny_load ho ?_)
  rw [hc, hd]
  show wpAny _ A (if (["enumerate", "zip", "dict_itemiterator", "dict_reverseitemiterator", "odict_iterator", "itertools.zip_longest", "itertools.pairwise"].contains "tuple_iterator" &&
      (#[.ref t, .int i 0] : Array Value)[0]? == some (rawInt T)) = true then _ else _) Q E s
  rw [if_neg (by
    intro h
    rw [show (["enumerate", "zip", "dict_itemiterator", "dict_reverseitemiterator", "odict_iterator", "itertools.zip_longest", "itertools.pairwise"].contains "tuple_iterator") = false from by decide, Bool.false_and] at h
    cases h)]
  exact wpAny_pure hQ
end
theorem Draws_tuple {prog : Program} {w : World} {A : Around} (hh : A.handled = none) (it l : Addr) (hne : l ≠ it) (items : Array Value) :
    Draws prog w A it [it, l] items.size (fun i v => items[i]? = some v) (fun i h => h.IsTupleIter it l i ∧ h.IsTuple l items) where
  live := fun _ _ st => let ⟨o, ho, _⟩ := st.1; ⟨o, ho⟩
  frame := fun _ _ _ st hk => ⟨let ⟨o, ho, r⟩ := st.1; ⟨o, hk it (by simp) o ho, r⟩, let ⟨o, ho, r⟩ := st.2; ⟨o, hk l (by simp) o ho, r⟩⟩
  item := fun i s Q E hi st hQ => by
    refine next_tuple_item st.1 st.2 (x := items[i]) (by simp [hi]) fun h' hit' hs' => ?_
    exact hQ _ h' s.toks (by simp [hi]) ⟨hit', st.2.extBut hs'.extBut hne⟩ hs'
  done := fun s Q E st hE => next_tuple_end hh st.1 st.2 (by simp) hE

inductive All2 {α β : Type} (R : α → β → Prop) : List α → List β → Prop where
  | nil : All2 R [] []
  | cons {a : α} {b : β} {as : List α} {bs : List β} : R a b → All2 R as bs → All2 R (a :: as) (b :: bs)
theorem All2.get {α β : Type} {R : α → β → Prop} {as : List α} {bs : List β} (h : All2 R as bs) : ∀ (i : Nat) a, as[i]? = some a → ∃ b, bs[i]? = some b ∧ R a b := by
  induction h with
  | nil => intro i a e; simp at e
  | cons r _ ih =>
    intro i a e
    cases i with
    | zero => simp at e; subst e; exact ⟨_, rfl, r⟩
    | succ i => simp at e; obtain ⟨b, hb, hr⟩ := ih i a e; exact ⟨b, by simpa using hb, hr⟩
theorem All2.length {α β : Type} {R : α → β → Prop} {as : List α} {bs : List β} (h : All2 R as bs) : as.length = bs.length := by
  induction h with
  | nil => rfl
  | cons _ _ ih => simp [ih]
theorem All2.mono {α β : Type} {R R' : α → β → Prop} {as : List α} {bs : List β} (h : All2 R as bs) (k : ∀ a b, R a b → R' a b) : All2 R' as bs := by
  induction h with
  | nil => exact .nil
  | cons r _ ih => exact .cons (k _ _ r) ih

noncomputable def PairAt (h : Heap) (q : Addr) (p : Int × Str) : Prop := ∃ t1 t2, h.IsTuple q #[.int p.1 t1, .str p.2 t2]
noncomputable def RowAt (h : Heap) (r : Addr) (row : List (Int × Str)) : Prop := ∃ qs : List Addr, h.IsTuple r (qs.map Value.ref).toArray ∧ All2 (PairAt h) qs row
theorem isTuple_keeps {h h' : Heap} {a : Addr} {items : Array Value} (x : h.IsTuple a items) (k : ∀ b o, h.get? b = some o → h'.get? b = some o) : h'.IsTuple a items := let ⟨o, ho, r⟩ := x; ⟨o, k _ _ ho, r⟩
theorem pick_at {α : Type} {l : List α} {p : α → Bool} {j : Nat} {a : α} (h : l[j]? = some a) (hp : p a = true) (hl : ∀ (i : Nat) b, i < j → l[i]? = some b → p b = false) : l.find? p = some a := by
  induction l generalizing j with
  | nil => simp at h
  | cons x r ih =>
    cases j with
    | zero => simp at h; subst h; simp [hp]
    | succ j =>
      have := hl 0 x (Nat.succ_pos _) rfl
      rw [List.find?_cons_of_neg (by simp [this])]
      exact ih (by simpa using h) fun i b hi hb => hl (i + 1) b (Nat.succ_lt_succ hi) (by simpa using hb)
theorem pick_none {α : Type} {l : List α} {p : α → Bool} (hl : ∀ (i : Nat) b, l[i]? = some b → p b = false) : l.find? p = none := by
  rw [List.find?_eq_none]
  intro x hx
  obtain ⟨i, hi⟩ := List.mem_iff_getElem?.mp hx
  simp [hl i x hi]

section
variable {prog : Program} {w : World} {A : Around} {s : Shared} {env : Env} {h₀ : Heap}
/-- «for b, c in row: .. break .. else: ..» over a written row of pairs: the first that hits -/
theorem for_row {E : Value → Shared → Prop} {Q : Flow → Shared → Prop} {xi xc : Str} {pk pv pt pos : Pos} {x1 : Nat} {iter : Expr} {body orelse : List Stmt} {m : Str → Option Value} {news : List (Addr × Obj)} {r : Addr} {row : List (Int × Str)}
    (Hit : Int × Str → Bool) (dflt : Str) (Res : Str → Shared → Prop)
    (hh : A.handled = none) (hxi : env.kindOf xi = some .local) (hxc : env.kindOf xc = some .local)
    (hp : (env.scope.kind == .class || (env.scope.kind == .module && env.locals != env.globals)) = false)
    (F : Fr h₀ env.locals s.heap m) (N : News h₀ env.locals s.heap news) (hr : RowAt h₀ r row)
    (hev : ∀ (Q' : Value → Shared → Prop) (E' : Value → Shared → Prop), Q' (.ref r) s → wpAny (model prog w) A (eval iter env) Q' E' s)
    (turn : ∀ b c t1 t2 I oI h tk (u : Str → Option Value), (b, c) ∈ row → (∀ q ∈ news, q.1 < I) → Fr h₀ env.locals h (fun y => if y = xc then some (.str c t2) else if y = xi then some (.int b t1) else if y = xc then u y else if y = xi then u y else m y) → News h₀ env.locals h ((I, oI) :: news) →
      wpAny (model prog w) A (execs body env) (fun f s' => Parked ((Hit (b, c) = true ∧ f = .brk ∧ Res c s') ∨ (Hit (b, c) = false ∧ f = .next ∧ ∃ h' tk' m', s' = { s with heap := h', toks := tk' } ∧ (∀ y, y ≠ xi → y ≠ xc → m' y = m y) ∧ Fr h₀ env.locals h' m' ∧ News h₀ env.locals h' ((I, oI) :: news))))
        (fun _ _ => False) { s with heap := h, toks := tk })
    (els : ∀ h tk (u : Str → Option Value), Fr h₀ env.locals h (fun y => if y = xc then u y else if y = xi then u y else m y) → News h₀ env.locals h news →
      wpAny (model prog w) A (execs orelse env) (fun f s' => Parked (f = .next ∧ Res dflt s')) (fun _ _ => False) { s with heap := h, toks := tk })
    (fin : ∀ s', Res (((row.find? Hit).map (·.2)).getD dflt) s' → Q .next s')
    (hs : ∀ x, foldedSetIterable iter env x = pure x) :
    wpAny (model prog w) A (exec (.For (.Tuple [.Name xi pk, .Name xc pv] x1 pt) iter body orelse pos) env) Q E s := by
  refine by_G fun G_ back_ => ?_
  obtain ⟨qs, hr, hqs⟩ := hr
  refine back_ ?_
  clear back_ G_
  have hrs : s.heap.IsTuple r (qs.map Value.ref).toArray := isTuple_keeps hr F.keep
  refine wpAny_For (hev _ _ ?_) hs
  refine wpAny_pyIter_tuple hrs ?_
  have hLlt : env.locals < s.heap.objs.size := F.ns.lt
  have hIn : h₀.get? s.heap.objs.size = none := next_is_new F
  have hrlt : r ≠ s.heap.objs.size := by obtain ⟨o, ho, _⟩ := hrs; exact Nat.ne_of_lt (Heap.lt_size ho)
  have hnl : ∀ q ∈ news, q.1 < s.heap.objs.size := fun q hq => Heap.lt_size (N q hq).1
  refine codeAny_forLoop_any
    (fun k s' => ∃ j h tk m₁, j ≤ qs.length ∧ k = qs.length - j ∧ s' = { s with heap := h, toks := tk } ∧ (∀ i p, i < j → row[i]? = some p → Hit p = false) ∧ (∀ y, y ≠ xi → y ≠ xc → m₁ y = m y) ∧
      Fr h₀ env.locals h m₁ ∧ News h₀ env.locals h news ∧ h.IsTupleIter s.heap.objs.size r j) ?_ qs.length
    ⟨0, _, _, m, Nat.zero_le _, rfl, rfl, fun _ _ h => absurd h (Nat.not_lt_zero _), fun _ _ _ => rfl, F.push _, fun p hp => ⟨Heap.get?_push_of_some _ (N p hp).1, (N p hp).2⟩, ⟨_, Heap.get?_push_size _ rfl, rfl, rfl⟩⟩
  intro k s' hpat1
  refine by_G fun G_ back_ => ?_
  obtain ⟨j, h, tk, m₁, hj, rfl, rfl, hmiss, hag, F₁, N₁, hit⟩ := hpat1
  refine back_ ?_
  clear back_ G_
  have ht₁ : h.IsTuple r (qs.map Value.ref).toArray := isTuple_keeps hr F₁.keep
  cases hq : qs[j]? with
  | none =>
    refine wpAny_pyNext_tuple_end hh hit ht₁ (by simp [hq]) fun h' hx => ?_
    have hF' : Fr h₀ env.locals h' m₁ := ⟨F₁.ns.at' fun o e => hx _ o (Nat.ne_of_lt hLlt) e, fun b o e => hx b o (fun q => by rw [q, hIn] at e; cases e) (F₁.keep b o e), F₁.above⟩
    have hN' : News h₀ env.locals h' news := fun p hp => ⟨hx _ _ (Nat.ne_of_lt (hnl p hp)) (N₁ p hp).1, (N₁ p hp).2⟩
    have em : m₁ = fun y => if y = xc then m₁ y else if y = xi then m₁ y else m y := by
      funext y
      by_cases h1 : y = xc
      · simp [h1]
      · by_cases h2 : y = xi
        · simp [h2]
        · simp [h1, h2, hag y h2 h1]
    rw [em] at hF'
    refine wpAny_mono (els h' tk m₁ hF' hN') (fun f s' hf => ?_) (fun _ _ e => e.elim)
    refine by_G fun G_ back_ => ?_
    obtain ⟨rfl, hres⟩ := hf
    refine back_ ?_
    clear back_ G_
    refine fin s' ?_
    have : row.find? Hit = none := pick_none fun i b hb => by
      have hl : qs.length ≤ j := by simpa using hq
      have : i < row.length := (List.getElem?_eq_some_iff.mp hb).1
      exact hmiss i b (by rw [← hqs.length] at this; omega) hb
    rw [this]; exact hres
  | some q =>
    refine by_G fun G_ back_ => ?_
    obtain ⟨p, hpj, t1, t2, hpair⟩ := hqs.get j q hq
    obtain ⟨b, c⟩ := p
    refine back_ ?_
    clear back_ G_
    have hjlt : j < qs.length := (List.getElem?_eq_some_iff.mp hq).1
    refine wpAny_pyNext_tuple_item hit ht₁ (x := .ref q) (by simp [hq]) fun h₂ hit₂ hs₂ => ?_
    replace hs₂ : Heap.SameBut s.heap.objs.size h h₂ := hs₂
    refine letGo_tupleiter hit₂ ?_
    have hF₂ : Fr h₀ env.locals h₂ m₁ := ⟨F₁.ns.at' fun o e => hs₂.extBut _ o (Nat.ne_of_lt hLlt) e, fun b o e => hs₂.extBut b o (fun q => by rw [q, hIn] at e; cases e) (F₁.keep b o e), F₁.above⟩
    have hN₂ : News h₀ env.locals h₂ news := fun p hp => ⟨hs₂.extBut _ _ (Nat.ne_of_lt (hnl p hp)) (N₁ p hp).1, (N₁ p hp).2⟩
    refine wpAny_assign_Tuple hh (isTuple_keeps hpair hF₂.keep) rfl rfl fun h₃ hx₃ => ?_
    replace hx₃ : Heap.ExtBut h₂.objs.size h₂ h₃ := hx₃
    have up₃ : ∀ b o, h₂.get? b = some o → h₃.get? b = some o := fun b o x => hx₃ b o (Nat.ne_of_lt (Heap.lt_size x)) x
    have F₃ := fr_keeps hF₂ up₃
    have N₃ := news_keeps hN₂ up₃
    refine by_G fun G_ back_ => ?_
    obtain ⟨oI, hoI, hoc, hod⟩ := hit₂
    refine back_ ?_
    clear back_ G_
    have hoI₃ := up₃ _ _ hoI
    show wpAny _ A (do holding [Value.str c t2] (assign (.Name xi pk) env (Value.int b t1)); do holding [] (assign (.Name xc pv) env (Value.str c t2)); pure ()) _ _ _
    refine wpAny_bind (wpAny_holding (wpAny_assign_Name (wpAny_storeName_local hxi F₃.ns (fun h₄ hn₄ hs₄ => ?_) hp)))
    replace hs₄ : Heap.SameBut env.locals h₃ h₄ := hs₄
    have F₄ := F₃.set hn₄ hs₄
    refine wpAny_bind (wpAny_holding (wpAny_assign_Name (wpAny_storeName_local hxc F₄.ns (fun h₅ hn₅ hs₅ => wpAny_pure ?_) hp)))
    replace hs₅ : Heap.SameBut env.locals h₄ h₅ := hs₅
    have F₅ := F₄.set hn₅ hs₅
    have N₅ : News h₀ env.locals h₅ ((s.heap.objs.size, oI) :: news) := by
      intro p hp
      rcases List.mem_cons.mp hp with rfl | hp
      · exact ⟨hs₅.extBut _ _ (Nat.ne_of_gt hLlt) (hs₄.extBut _ _ (Nat.ne_of_gt hLlt) hoI₃), Nat.ne_of_gt hLlt, hIn⟩
      · exact ((N₃.set hs₄).set hs₅) p hp
    have em : (fun y => if y = xc then some (Value.str c t2) else (fun y => if y = xi then some (Value.int b t1) else m₁ y) y) = fun y => if y = xc then some (Value.str c t2) else if y = xi then some (Value.int b t1) else if y = xc then m₁ y else if y = xi then m₁ y else m y := by
      funext y
      by_cases h1 : y = xc
      · simp [h1]
      · by_cases h2 : y = xi
        · simp [h2]
        · simp [h1, h2, hag y h2 h1]
    rw [em] at F₅
    refine wpAny_mono (turn b c t1 t2 _ oI h₅ _ m₁ (List.mem_of_getElem? hpj) hnl F₅ N₅) (fun f s' hf => ?_) (fun _ _ e => e.elim)
    rcases hf with ⟨hH, rfl, hres⟩ | ⟨hH, rfl, h', tk', m', rfl, hag', F', N'⟩
    · refine fin s' ?_
      rw [pick_at hpj hH fun i p hi hp' => hmiss i p hi hp']
      exact hres
    · refine ⟨qs.length - (j + 1), by omega, j + 1, h', tk', m', hjlt, rfl, rfl, fun i p hi hp' => ?_, hag', F', fun p hp => N' p (.tail _ hp), ⟨oI, (N' _ (.head _)).1, hoc, hod⟩⟩
      rcases Nat.lt_succ_iff_lt_or_eq.mp hi with h1 | h1
      · exact hmiss i p h1 hp'
      · subst h1; rw [hpj] at hp'; cases hp'; exact hH
end
end
-- C2
section
theorem lines_C2_1 : True := by
  k_with_none
  k_with "mine in" => ((case k6 => k_is); (case k7 => k_is); (case k8 => decide); (case k9 => exact BindsTo.of_eq rfl); (case kB => exact locs rfl); (case c2 => exact rfl); (case c3 => exact rfl); (case c4 => exact rfl); (case c5 => decide))
  trivial
noncomputable def IfmtPost (y : Int) (s : Shared) (v : Value) (s' : Shared) : Prop := (∃ t, v = .int (Builtin.bitAnd y 61440) t) ∧ Keeps s s'
set_option maxHeartbeats 4000000 in
theorem c_ifmt0 {w : World} {s : Shared} {mg mb : Str → Option Value} (B : Bs w mg mb s.heap) (y : Int) (t1 : Tok) :
    wpAny (model P w) (AA 9) (call (.ref 28) [.int y t1]) (IfmtPost y s) (fun _ _ => False) s := by
  have X := B.x
  obtain ⟨loose, mean, T⟩ := B.t
  refine wpAny_call ?_
  refine' enterK (binds := [(Str.ofString "mode", .int y t1)]) X T.nolimit ?k6 ?k7 ?k8 ?k9 ?kB ?_ ?c2 ?c3 ?c4 ?c5
  walk_at "mine in"
  intro h₁ F
  have N : News s.heap s.heap.objs.size h₁ [] := News.nil
  (try dsimp only)
  (try k_fold)
  k_steps
  exact ⟨⟨_, rfl⟩, keeps_fr F⟩
theorem use_ifmt {w : World} {s : Shared} {A : Around} {h₀ : Heap} {L : Addr} {m mg mb : Str → Option Value} {news : List (Addr × Obj)} {Q E : Value → Shared → Prop} {y : Int} {t1 : Tok}
    (F : Fr h₀ L s.heap m) (N : News h₀ L s.heap news) (B : Bs w mg mb h₀) (hh : A.handled = none) (hd : A.depth ≤ 900) (hu : A.units ≤ 9000)
    (h : ∀ h' tk t, Fr h₀ L h' m → News h₀ L h' news → Q (.int (Builtin.bitAnd y 61440) t) { s with heap := h', toks := tk }) : wpAny (model P w) A (call (.ref 28) [.int y t1]) Q E s :=
  wpAny_mono (wpAny_le (c_ifmt0 (B.keeps F.keep) y t1) hh hd rfl rfl hu) (fun v s' q => by
    obtain ⟨⟨t, rfl⟩, h', tk, rfl, k⟩ := q
    exact h h' tk t (fr_keeps F k) (news_keeps N k)) (fun _ _ q => q.elim)
theorem lines_C2_2 : True := by
  k_with "call ref" => (k_here; (with_reducible show wpAny _ _ (call (Value.ref 28) [Value.int _ _]) _ _ _); refine' use_ifmt ?zqF ?zqN ?zqB rfl (Nat.le_of_ble_eq_true rfl) (Nat.le_of_ble_eq_true rfl) ?_; (case zqF => k_asm); (case zqN => k_asm); (case zqB => assumption); intro h' tk' t' F' N'; (try k_sweep))
  trivial
noncomputable def EnumPost (s : Shared) (v : Value) (s' : Shared) : Prop := ∃ e it, v = .ref e ∧ s.heap.get? it = none ∧ s.heap.get? e = none ∧ it < e ∧
  s'.heap.get? it = some { cls := .type "tuple_iterator", data := .fields #[.ref 61, .int 0 0] } ∧ IsEnum s'.heap e it 0 .none ∧ Keeps s s'
/-- the two objects that enumerate makes over a tuple -/
noncomputable abbrev itO (l : Addr) : Obj := { cls := .type "tuple_iterator", data := .fields #[.ref l, .int 0 0] }
noncomputable abbrev enO (it : Addr) : Obj := { cls := .type "enumerate", data := .fields #[.none, .bool false, .ref it, rawInt 0, .none, .none] }
theorem enum_made (l : Addr) (vs : Array Value) (n : Nat) :
    Meets (Builtin.«enumerate.__new__» ⟨[.type "enumerate", .ref l], []⟩) (fun _ R s => s.heap.get? l = some ({ cls := .type "tuple", dict := none, data := .seq vs n, slots := #[] }) ∧
      R (.ok (.ret (.ref (s.heap.push (itO l)).objs.size))) { s with heap := (s.heap.push (itO l)).push (enO s.heap.objs.size) }) :=
  .of_wp fun prog w A R s hq => by
    obtain ⟨hp, gs, d, tk, os⟩ := s
    have hl := hq.1
    have sub := sub_enumerate
    have hT : Heap.IsTuple (Shared.heap ⟨hp, gs, d, tk, os⟩) l vs := ⟨_, hl, rfl, n, rfl⟩
    wp_walk using AutoSeq1.wpAny_loadPart' hl
    refine wpAny_stack_any fun _ => wpAny_pure ?_
    split
    · rename_i c _ _ _ _ _
      cases (c == Value.type "enumerate") <;> (wp_walk using AutoSeq1.wpAny_loadPart' hl, wpAny_pyIter_tuple hT; exact ⟨_, rfl, hq.2⟩)
    · wp_walk using AutoSeq1.wpAny_loadPart' hl, wpAny_pyIter_tuple hT; exact ⟨_, rfl, hq.2⟩
theorem c_enum0 {w : World} {s : Shared} {mg mb : Str → Option Value} (B : Bs w mg mb s.heap) :
    wpAny (model P w) (AA 9) (call (.type "enumerate") [.ref 61]) (EnumPost s) (fun _ _ => False) s := by
  obtain ⟨vs, n, e⟩ : ∃ vs n, s.heap.get? 61 = some ({ cls := .type "tuple", dict := none, data := .seq vs n, slots := #[] }) := ⟨_, _, B.x _ _ (by k_is)⟩
  refine callType_new F.called_enumerate (by decide) (F.typeCall_enumerate_1 _) (F.newCall_enumerate_1 _) (fun obj => F.args_object_init_2 obj _) F.entry_enumerate_new (enum_made 61 vs n) ⟨e, ?_⟩
  have hz : (s.heap.push (itO 61)).objs.size = s.heap.objs.size + 1 := Heap.size_push ..
  have hE : ((s.heap.push (itO 61)).push (enO s.heap.objs.size)).get? (s.heap.push (itO 61)).objs.size = some (enO s.heap.objs.size) := Heap.get?_push_size _ rfl
  show _ ∧ _
  refine ⟨⟨_, hE, rfl⟩, _, s.heap.objs.size, rfl, Heap.get?_none_of_le (Nat.le_refl _), Heap.get?_none_of_le (by rw [hz]; exact Nat.le_succ _), by rw [hz]; exact Nat.lt_succ_self _, Heap.get?_push_of_some _ (Heap.get?_push_size _ rfl), hE, _, s.toks, rfl,
    fun b o x => Heap.get?_push_of_some _ (Heap.get?_push_of_some _ x)⟩
end
-- C3
section
noncomputable def fmRows : List (List (Int × Str)) := [
  [(40960, Str.ofString "l"), (49152, Str.ofString "s"), (32768, Str.ofString "-"), (24576, Str.ofString "b"), (16384, Str.ofString "d"), (8192, Str.ofString "c"), (4096, Str.ofString "p")],
  [(256, Str.ofString "r")], [(128, Str.ofString "w")], [(2112, Str.ofString "s"), (2048, Str.ofString "S"), (64, Str.ofString "x")],
  [(32, Str.ofString "r")], [(16, Str.ofString "w")], [(1032, Str.ofString "s"), (1024, Str.ofString "S"), (8, Str.ofString "x")],
  [(4, Str.ofString "r")], [(2, Str.ofString "w")], [(513, Str.ofString "t"), (512, Str.ofString "T"), (1, Str.ofString "x")]]
noncomputable def hitOf (i : Nat) (mode : Int) (p : Int × Str) : Bool := if i = 0 then decide (Builtin.bitAnd mode 61440 = p.1) else decide (Builtin.bitAnd mode p.1 = p.1)
noncomputable def dfltOf (i : Nat) : Str := if i = 0 then Str.ofString "?" else Str.ofString "-"
noncomputable def pickOf (i : Nat) (mode : Int) (row : List (Int × Str)) : Str := ((row.find? (hitOf i mode)).map (·.2)).getD (dfltOf i)
noncomputable def charsOf (mode : Int) : Nat → List (List (Int × Str)) → List Str
  | _, [] => []
  | i, row :: r => pickOf i mode row :: charsOf mode (i + 1) r
noncomputable def fm (mode : Int) : Str := Txt.join (Str.ofString "") (charsOf mode 0 fmRows)
noncomputable def rowsA : List Addr := [36, 38, 40, 44, 46, 48, 52, 54, 56, 60]
theorem tup_of {K : Frag} {h : Heap} {a : Addr} {items : Array Value} {n : Nat} (X : K.In h) (e : K.lookup a = some { cls := .type "tuple", data := .seq items n }) : h.IsTuple a items := ⟨_, X _ _ e, rfl, n, rfl⟩
set_option maxHeartbeats 4000000 in
theorem tab61 {w : World} {mg mb : Str → Option Value} {h : Heap} (B : Bs w mg mb h) : h.IsTuple 61 (rowsA.map Value.ref).toArray := tup_of B.x (by k_is)
set_option maxHeartbeats 4000000 in
theorem rows61 {w : World} {mg mb : Str → Option Value} {h : Heap} (B : Bs w mg mb h) : All2 (RowAt h) rowsA fmRows := by
  have X := B.x
  unfold rowsA fmRows
  refine .cons ⟨[29, 30, 31, 32, 33, 34, 35], tup_of X (by k_is), ?_⟩ (.cons ⟨[37], tup_of X (by k_is), ?_⟩ (.cons ⟨[39], tup_of X (by k_is), ?_⟩ (.cons ⟨[41, 42, 43], tup_of X (by k_is), ?_⟩
    (.cons ⟨[45], tup_of X (by k_is), ?_⟩ (.cons ⟨[47], tup_of X (by k_is), ?_⟩ (.cons ⟨[49, 50, 51], tup_of X (by k_is), ?_⟩
    (.cons ⟨[53], tup_of X (by k_is), ?_⟩ (.cons ⟨[55], tup_of X (by k_is), ?_⟩ (.cons ⟨[57, 58, 59], tup_of X (by k_is), ?_⟩ .nil)))))))))
  all_goals (repeat' (first | exact All2.nil | (refine All2.cons ?_ ?_)))
  all_goals exact ⟨_, _, tup_of X (by k_is)⟩
theorem charsOf_get (mode : Int) : ∀ (rows : List (List (Int × Str))) (k i : Nat), (charsOf mode k rows)[i]? = (rows[i]?).map (pickOf (k + i) mode)
  | [], _, _ => by simp [charsOf]
  | row :: r, k, i => by
    cases i with
    | zero => simp [charsOf]
    | succ i => simp only [charsOf, List.getElem?_cons_succ]; rw [charsOf_get mode r (k + 1) i]; congr 2; omega
theorem charsOf_length (mode : Int) : ∀ (rows : List (List (Int × Str))) (k : Nat), (charsOf mode k rows).length = rows.length
  | [], _ => rfl
  | _ :: r, k => by simp [charsOf, charsOf_length mode r (k + 1)]
noncomputable def enumO (it : Addr) (i : Int) (old : Value) : Obj := { cls := .type "enumerate", dict := none, data := .fields #[.none, .bool false, .ref it, rawInt i, .none, old], slots := #[] }
section
variable {w : World} {A : Around} {s : Shared} {env : Env} {h₀ : Heap} {mg mb : Str → Option Value}
theorem for_enum61 {E : Value → Shared → Prop} {Q : Flow → Shared → Prop} {xi xc xb xd : Str} {pk pv pt pos : Pos} {x1 : Nat} {iter : Expr} {body : List Stmt} {m : Str → Option Value} {p : Addr} {n₀ : Nat} (mode : Int)
    (B : Bs w mg mb h₀) (hh : A.handled = none) (hxi : env.kindOf xi = some .local) (hxc : env.kindOf xc = some .local)
    (hp : (env.scope.kind == .class || (env.scope.kind == .module && env.locals != env.globals)) = false)
    (F : Fr h₀ env.locals s.heap m) (N : News h₀ env.locals s.heap [(p, W.listOf #[] n₀)])
    (hev : ∀ (Q' : Value → Shared → Prop) (E' : Value → Shared → Prop), (∀ v s', EnumPost s v s' → Q' v s') → wpAny (model P w) A (eval iter env) Q' E' s)
    (turn : ∀ (i : Nat) r row l n t h tk e it oe oit (u : Str → Option Value), i < 10 → (strValues l).toArray.size ≤ sizeLine → rowsA[i]? = some r → fmRows[i]? = some row → RowAt h₀ r row → @Ne Nat p it → @Ne Nat p e → @Ne Nat it e →
      Fr h₀ env.locals h (fun y => if y = xc then some (.ref r) else if y = xi then some (.int (i : Int) t) else if y = xb then u y else if y = xd then u y else if y = xc then u y else if y = xi then u y else m y) →
      News h₀ env.locals h [(p, W.listOf (strValues l).toArray n), (e, oe), (it, oit)] →
      wpAny (model P w) A (execs body env) (fun f s' => Parked (f = .next ∧ ∃ h' tk' m' t' n', s' = { s with heap := h', toks := tk' } ∧ (∀ y, y ≠ xb → y ≠ xd → y ≠ xc → y ≠ xi → m' y = m y) ∧ Fr h₀ env.locals h' m' ∧
        News h₀ env.locals h' [(p, W.listOf (strValues (l ++ [(pickOf i mode row, t')])).toArray n'), (e, oe), (it, oit)])) (fun _ _ => False) { s with heap := h, toks := tk })
    (fin : ∀ h tk l n (u : Str → Option Value), Fr h₀ env.locals h (fun y => if y = xb then u y else if y = xd then u y else if y = xc then u y else if y = xi then u y else m y) → News h₀ env.locals h [(p, W.listOf (strValues l).toArray n)] →
      l.map (·.1) = charsOf mode 0 fmRows → Q .next { s with heap := h, toks := tk })
    (hs : ∀ x, foldedSetIterable iter env x = pure x) :
    wpAny (model P w) A (exec (.For (.Tuple [.Name xi pk, .Name xc pv] x1 pt) iter body [] pos) env) Q E s := by
  refine wpAny_For (hev _ _ ?_) hs
  intro v s' hpat1
  refine by_G fun G_ back_ => ?_
  obtain ⟨e, it, rfl, hitn, hen, hlt, hit, hE, h, tk, rfl, k⟩ := hpat1
  refine back_ ?_
  clear back_ G_
  replace hit : h.get? it = some { cls := .type "tuple_iterator", data := .fields #[.ref 61, .int 0 0] } := hit
  replace hE : IsEnum h e it 0 .none := hE
  refine wpAny_pyIter_enum hE ?_
  have F1 : Fr h₀ env.locals h m := fr_keeps F k
  have N1 := news_keeps N k
  have new : ∀ b, s.heap.get? b = none → h₀.get? b = none := fun b hb => by
    cases q : h₀.get? b with
    | none => rfl
    | some o => have := F.keep _ _ q; rw [hb] at this; cases this
  refine by_G fun G_ back_ => ?_
  obtain ⟨oL, _, _, hoL, _⟩ := F.ns
  refine back_ ?_
  clear back_ G_
  have hLne : ∀ b, s.heap.get? b = none → b ≠ env.locals := fun b hb q => by rw [q, hoL] at hb; cases hb
  have ho := (N _ (.head _)).1
  have hpe : p ≠ e := fun q => by rw [← q] at hen; rw [hen] at ho; cases ho
  have hpi : p ≠ it := fun q => by rw [← q] at hitn; rw [hitn] at ho; cases ho
  have h61 : h₀.IsTuple 61 (rowsA.map Value.ref).toArray := tab61 B
  have h61i : (61 : Addr) ≠ it := fun q => by obtain ⟨o, ho, _⟩ := h61; have := F.keep _ _ ho; rw [q, hitn] at this; cases this
  have D := Draws_tuple (prog := P) (w := w) (A := A.in1) hh it 61 h61i (rowsA.map Value.ref).toArray
  have hef : e ∉ [it, 61] := by
    intro q
    rcases List.mem_cons.mp q with q | q
    · exact Nat.ne_of_gt hlt q
    · have q' := List.mem_singleton.mp q
      obtain ⟨o, ho, _⟩ := h61; have := F.keep _ _ ho; rw [← q', hen] at this; cases this
  have hne : e ≠ it := Nat.ne_of_gt hlt
  have hlen : (rowsA.map Value.ref).toArray.size = 10 := rfl
  refine codeAny_forLoop_any
    (fun k s' => ∃ i h tk m₁ l n old, i ≤ 10 ∧ k = 10 - i ∧ s' = { s with heap := h, toks := tk } ∧ (∀ y, y ≠ xb → y ≠ xd → y ≠ xc → y ≠ xi → m₁ y = m y) ∧ Fr h₀ env.locals h m₁ ∧
      News h₀ env.locals h [(p, W.listOf (strValues l).toArray n)] ∧ IsEnum h e it (i : Nat) old ∧ h.IsTupleIter it 61 i ∧ l.map (·.1) = (charsOf mode 0 fmRows).take i) ?_ 10
    ⟨0, h, tk, m, [], n₀, .none, Nat.zero_le _, rfl, rfl, fun _ _ _ _ _ => rfl, F1, N1, hE, ⟨_, hit, rfl, rfl⟩, rfl⟩
  clear hit hE F1 N1 k
  intro k' s' hpat1
  refine by_G fun G_ back_ => ?_
  obtain ⟨i, h, tk, m₁, l, n, old, hi, rfl, rfl, hag, F₁, N₁, hE, hit, hl⟩ := hpat1
  refine back_ ?_
  clear back_ G_
  have ht₁ : h.IsTuple 61 (rowsA.map Value.ref).toArray := isTuple_keeps h61 F₁.keep
  have em : m₁ = fun y => if y = xb then m₁ y else if y = xd then m₁ y else if y = xc then m₁ y else if y = xi then m₁ y else m y := by
    funext y
    by_cases h1 : y = xb
    · simp [h1]
    · by_cases h2 : y = xd
      · simp [h2]
      · by_cases h3 : y = xc
        · simp [h3]
        · by_cases h4 : y = xi
          · simp [h4]
          · simp [h1, h2, h3, h4, hag y h1 h2 h3 h4]
  by_cases hlt : i < 10
  · refine wpAny_pyNext_enum_itemD D hE ⟨hit, ht₁⟩ (by rw [hlen]; exact hlt) hne hef fun x h₂ tk₂ hx hO hst hT _ hk => ?_
    refine by_G fun G_ back_ => ?_
    obtain ⟨hit₂, ht₂⟩ := hst
    refine back_ ?_
    clear back_ G_
    obtain ⟨r, hr, rfl⟩ : ∃ r, rowsA[i]? = some r ∧ x = .ref r := by
      have : (rowsA.map Value.ref)[i]? = some x := by simpa using hx
      rw [List.getElem?_map] at this
      cases q : rowsA[i]? with
      | none => rw [q] at this; cases this
      | some r => rw [q] at this; cases this; exact ⟨r, rfl, rfl⟩
    refine by_G fun G_ back_ => ?_
    obtain ⟨row, hrow, hR⟩ := (rows61 B).get i r hr
    refine back_ ?_
    clear back_ G_
    have up : ∀ b o, b ≠ e → b ≠ it → h.get? b = some o → h₂.get? b = some o := hk
    have hF₂ : Fr h₀ env.locals h₂ m₁ := ⟨F₁.ns.at' fun o q => up _ o (fun z => hLne e hen z.symm) (fun z => hLne it hitn z.symm) q,
      fun b o q => up b o (fun z => by rw [z, new e hen] at q; cases q) (fun z => by rw [z, new it hitn] at q; cases q) (F₁.keep b o q), F₁.above⟩
    have hT₂ : h₂.get? h.objs.size = some { cls := .type "tuple", data := .seq #[.int i tk₂, .ref r] } := hT
    refine wpAny_letOwnedTupleGo_enum hO fun h₃ hE₃ hs₃ => ?_
    replace hs₃ : Heap.SameBut e h₂ h₃ := hs₃
    have hn2 : News h₀ env.locals h₂ [(p, W.listOf (strValues l).toArray n)] := fun q hq => ⟨up _ _ (by rw [List.mem_singleton.mp hq]; exact hpe) (by rw [List.mem_singleton.mp hq]; exact hpi) (N₁ q hq).1, (N₁ q hq).2⟩
    have hF₃ : Fr h₀ env.locals h₃ m₁ := ⟨hF₂.ns.at' fun o q => hs₃.extBut _ o (fun z => hLne e hen z.symm) q, fun b o q => hs₃.extBut b o (fun z => by rw [z, new e hen] at q; cases q) (hF₂.keep b o q), hF₂.above⟩
    have hN₃ : News h₀ env.locals h₃ [(p, W.listOf (strValues l).toArray n)] := fun q hq => ⟨hs₃.extBut _ _ (by rw [List.mem_singleton.mp hq]; exact hpe) (hn2 q hq).1, (hn2 q hq).2⟩
    have hTe : h.objs.size ≠ e := Nat.ne_of_gt (Heap.lt_size hE)
    refine wpAny_assign_Tuple hh (⟨_, hs₃.extBut _ _ hTe hT₂, rfl, _, rfl⟩ : h₃.IsTuple h.objs.size #[.int i tk₂, .ref r]) rfl rfl fun h₄ hx₄ => ?_
    replace hx₄ : Heap.ExtBut h₃.objs.size h₃ h₄ := hx₄
    have up₄ : ∀ b o, h₃.get? b = some o → h₄.get? b = some o := fun b o x => hx₄ b o (Nat.ne_of_lt (Heap.lt_size x)) x
    have F₄ := fr_keeps hF₃ up₄
    have N₄ := news_keeps hN₃ up₄
    have hE₄ := up₄ _ _ hE₃
    refine by_G fun G_ back_ => ?_
    obtain ⟨oI, hoI, hoc, hod⟩ := hit₂
    refine back_ ?_
    clear back_ G_
    have hoI₄ := up₄ _ _ (hs₃.extBut _ _ (Ne.symm hne) hoI)
    show wpAny _ A (do holding [Value.ref r] (assign (.Name xi pk) env (Value.int i tk₂)); do holding [] (assign (.Name xc pv) env (Value.ref r)); pure ()) _ _ _
    refine wpAny_bind (wpAny_holding (wpAny_assign_Name (wpAny_storeName_local hxi F₄.ns (fun h₅ hn₅ hs₅ => ?_) hp)))
    replace hs₅ : Heap.SameBut env.locals h₄ h₅ := hs₅
    have F₅ := F₄.set hn₅ hs₅
    refine wpAny_bind (wpAny_holding (wpAny_assign_Name (wpAny_storeName_local hxc F₅.ns (fun h₆ hn₆ hs₆ => wpAny_pure ?_) hp)))
    replace hs₆ : Heap.SameBut env.locals h₅ h₆ := hs₆
    have F₆ := F₅.set hn₆ hs₆
    have N₆ : News h₀ env.locals h₆ [(p, W.listOf (strValues l).toArray n), (e, enumO it ((i : Int) + 1) (.ref r)), (it, oI)] := by
      intro q hq
      rcases List.mem_cons.mp hq with rfl | hq
      · exact ((N₄.set hs₅).set hs₆) _ (.head _)
      · rcases List.mem_cons.mp hq with rfl | hq
        · exact ⟨hs₆.extBut _ _ (hLne e hen) (hs₅.extBut _ _ (hLne e hen) hE₄), hLne e hen, new e hen⟩
        · rw [List.mem_singleton.mp hq]
          exact ⟨hs₆.extBut _ _ (hLne it hitn) (hs₅.extBut _ _ (hLne it hitn) hoI₄), hLne it hitn, new it hitn⟩
    have em₆ : (fun y => if y = xc then some (Value.ref r) else (fun y => if y = xi then some (Value.int i tk₂) else m₁ y) y) = fun y => if y = xc then some (Value.ref r) else if y = xi then some (Value.int i tk₂) else if y = xb then m₁ y else if y = xd then m₁ y else if y = xc then m₁ y else if y = xi then m₁ y else m y := by
      funext y
      by_cases h3 : y = xc
      · simp [h3]
      · by_cases h4 : y = xi
        · simp [h4]
        · have q := congrFun em y
          simp only [if_neg h3, if_neg h4] at q ⊢
          exact q
    rw [em₆] at F₆
    have hsz : (strValues l).toArray.size ≤ sizeLine := by
      have h1 : l.length ≤ 10 := by
        have := congrArg List.length hl
        rw [List.length_map, List.length_take] at this
        omega
      have h2 : (strValues l).toArray.size = l.length := by simp [strValues]
      rw [h2]; exact Nat.le_trans h1 (by decide)
    refine wpAny_mono (turn i r row l n tk₂ h₆ _ e it _ oI m₁ hlt hsz hr hrow hR hpi hpe (Ne.symm hne) F₆ N₆) (fun f s' hf => ?_) (fun _ _ q => q.elim)
    refine by_G fun G_ back_ => ?_
    obtain ⟨rfl, h', tk', m', t', n', rfl, hag', F', N'⟩ := hf
    refine back_ ?_
    clear back_ G_
    refine ⟨10 - (i + 1), by omega, i + 1, h', tk', m', _, n', _, hlt, rfl, rfl, hag', F', fun q hq => N' q (by rw [List.mem_singleton.mp hq]; exact .head _), (N' _ (.tail _ (.head _))).1, ⟨oI, (N' _ (.tail _ (.tail _ (.head _)))).1, hoc, hod⟩, ?_⟩
    rw [List.map_append, hl, List.take_add_one, charsOf_get, hrow]
    simp
  · have hin : i = 10 := by omega
    subst hin
    refine wpAny_pyNext_enum_endD D hE ⟨hit, ht₁⟩ fun h' hx => wpAny_execs_nil ?_
    have hF' : Fr h₀ env.locals h' m₁ := ⟨F₁.ns.at' fun o q => hx _ o (fun z => hLne it hitn z.symm) q, fun b o q => hx b o (fun z => by rw [z, new it hitn] at q; cases q) (F₁.keep b o q), F₁.above⟩
    rw [em] at hF'
    refine fin h' tk l n m₁ hF' (fun q hq => ⟨hx _ _ (by rw [List.mem_singleton.mp hq]; exact hpi) (N₁ q hq).1, (N₁ q hq).2⟩) ?_
    rw [hl, List.take_of_length_le (by rw [charsOf_length]; decide)]
end
theorem pick_len {i : Nat} {mode : Int} {row : List (Int × Str)} (h : ∀ p ∈ row, p.2.length = 1) : (pickOf i mode row).length = 1 := by
  unfold pickOf
  cases q : row.find? (hitOf i mode) with
  | none => show (dfltOf i).length = 1; unfold dfltOf; split <;> decide +kernel
  | some p => exact h p (List.mem_of_find?_eq_some q)
theorem chars_len (mode : Int) : ∀ (rows : List (List (Int × Str))) (k : Nat), (∀ row ∈ rows, ∀ p ∈ row, p.2.length = 1) → ∀ c ∈ charsOf mode k rows, c.length = 1
  | [], _, _, c, hc => by simp [charsOf] at hc
  | row :: r, k, h, c, hc => by
    rcases List.mem_cons.mp hc with rfl | hc
    · exact pick_len (h row (.head _))
    · exact chars_len mode r (k + 1) (fun x hx => h x (.tail _ hx)) c hc
theorem rows_len : ∀ row ∈ fmRows, ∀ p ∈ row, p.2.length = 1 := by decide +kernel
theorem fold_len : ∀ (l : List Str) (a : Nat), (∀ c ∈ l, c.length = 1) → l.foldl (fun (a : Nat) (c : Str) => a + c.length + 0) a = a + l.length
  | [], a, _ => rfl
  | c :: r, a, h => by
    rw [List.foldl_cons, h c (.head _), fold_len r _ fun x hx => h x (.tail _ hx), List.length_cons]; omega
theorem join_ok (mode : Int) : JoinOk (Str.ofString "") (charsOf mode 0 fmRows) = true := by
  unfold JoinOk
  rw [Bool.not_eq_true']
  have e : ((charsOf mode 0 fmRows).toArray.foldl (fun (a : Nat) (c : Str) => a + c.length + (Str.ofString "").length) 0) = 10 := by
    rw [← Array.foldl_toList]
    have := fold_len (charsOf mode 0 fmRows) 0 (chars_len mode fmRows 0 rows_len)
    rw [charsOf_length] at this
    exact this
  rw [e]
  decide +kernel
end
-- C4
section
theorem lines_C4_1 : True := by
  k_with_none
  k_with "mine in" => ((case k6 => k_is); (case k7 => k_is); (case k8 => decide); (case k9 => exact BindsTo.of_eq rfl); (case kB => exact locs rfl); (case c2 => exact rfl); (case c3 => exact rfl); (case c4 => exact rfl); (case c5 => decide))
  k_with "call ref" => (k_here; (with_reducible show wpAny _ _ (call (Value.ref 28) [Value.int _ _]) _ _ _); refine' use_ifmt ?zqF ?zqN ?zqB rfl (Nat.le_of_ble_eq_true rfl) (Nat.le_of_ble_eq_true rfl) ?_; (case zqF => k_asm); (case zqN => k_asm); (case zqB => assumption); intro h' tk' t' F' N'; (try k_sweep))
  k_with "exec For Tuple Call" => refine park ?_
  k_with "exec For Tuple Name" => refine park ?_
  k_with "call type:enumerate" => refine park ?_
  trivial
theorem push_str (l : List (Str × Tok)) (c : Str) (t : Tok) : (strValues l).toArray.push (.str c t) = (strValues (l ++ [(c, t)])).toArray := by
  simp [strValues]
theorem news_push {h₀ h : Heap} {L p : Addr} {l : List (Str × Tok)} {c : Str} {t : Tok} {n : Nat} {pre rest : List (Addr × Obj)} (N : News h₀ L h (pre ++ (p, W.listOf ((strValues l).toArray.push (.str c t)) n) :: rest)) :
    News h₀ L h ((p, W.listOf (strValues (l ++ [(c, t)])).toArray n) :: rest) := by
  rw [push_str] at N
  exact fun q hq => N q (List.mem_append_right _ hq)
noncomputable def ModePost (y : Int) (s : Shared) (v : Value) (s' : Shared) : Prop := (∃ t, v = .str (fm y) t) ∧ Keeps s s'
set_option maxHeartbeats 4000000 in
theorem c_mode0 {w : World} {s : Shared} {mg mb : Str → Option Value} (B : Bs w mg mb s.heap) (y : Int) (t1 : Tok) :
    wpAny (model P w) (AA 8) (call (.ref 68) [.int y t1]) (ModePost y s) (fun _ _ => False) s := by
  have X := B.x
  obtain ⟨loose, mean, T⟩ := B.t
  refine wpAny_call ?_
  refine' enterK (binds := [(Str.ofString "mode", .int y t1)]) X T.nolimit ?k6 ?k7 ?k8 ?k9 ?kB ?_ ?c2 ?c3 ?c4 ?c5
  walk_at "mine in"
  intro h₁ F
  have N : News s.heap s.heap.objs.size h₁ [] := News.nil
  (try dsimp only)
  (try k_fold)
  k_steps
  rename Fr _ _ _ _ => F1
  rename News _ _ _ _ => N1
  rename_i p hA lA hB
  unfold Parked
  refine for_enum61 (xb := Str.ofString "bit") (xd := Str.ofString "char") y B rfl rfl rfl rfl F1 N1 ?hev ?turn ?fin ?hs
  case hs => intro _; rfl
  case hev =>
    intro Q' E' hQ
    k_steps
    unfold Parked
    exact wpAny_mono (wpAny_le (c_enum0 (B.keeps F1.keep)) rfl (Nat.le_of_ble_eq_true rfl) rfl rfl (Nat.le_of_ble_eq_true rfl)) hQ (fun _ _ q => q.elim)
  case turn =>
    intro i r row l n t h tk e it oe oit u hi hz hr hrow hR n1 n2 n3 F2 N2
    k_steps
    unfold Parked
    replace F2 : Fr s.heap s.heap.objs.size h _ := F2
    replace N2 : News s.heap s.heap.objs.size h _ := N2
    refine for_row (hitOf i y) (dfltOf i) (fun c s' => ∃ h' tk' m' t' n', s' = { s with heap := h', toks := tk' } ∧ (∀ z, z ≠ Str.ofString "bit" → z ≠ Str.ofString "char" → z ≠ Str.ofString "table" → z ≠ Str.ofString "index" → m' z = (if z = Str.ofString "perm" then some (Value.ref p) else List.lookup z [(Str.ofString "mode", Value.int y t1)].reverse)) ∧ Fr s.heap s.heap.objs.size h' m' ∧
        News s.heap s.heap.objs.size h' [(p, W.listOf (strValues (l ++ [(c, t')])).toArray n'), (e, oe), (it, oit)]) rfl rfl rfl rfl F2 N2 hR ?hev2 ?turn2 ?els2 ?fin2 ?hs2
    case hs2 => intro _; rfl
    case hev2 => intro Q' E' hq; exact ld F2 rfl hq
    case fin2 =>
      intro s' hres
      exact wpAny_execs_nil ⟨rfl, hres⟩
    case turn2 =>
      intro b c u1 u2 I oI h3 tk3 u3 hmem hlt F3 N3
      replace F3 : Fr s.heap s.heap.objs.size h3 _ := F3
      replace N3 : News s.heap s.heap.objs.size h3 _ := N3
      k_lt hlt
      k_steps
      · refine Or.inl ⟨?_, rfl, _, _, _, u2, _, rfl, ?_, by assumption, news_push (pre := [(I, oI)]) (by assumption)⟩
        · unfold hitOf; rw [if_pos (by omega)]; exact decide_eq_true (by assumption)
        · intro z h1 h2 h3 h4; simp only [if_neg h1, if_neg h2, if_neg h3, if_neg h4]
      · refine Or.inr ⟨?_, rfl, _, _, _, rfl, ?_, by assumption, by assumption⟩
        · unfold hitOf; rw [if_pos (by omega)]; exact decide_eq_false (by assumption)
        · intro z h1 h2; simp only [if_neg h1, if_neg h2]
      · refine Or.inl ⟨?_, rfl, _, _, _, u2, _, rfl, ?_, by assumption, news_push (pre := [(I, oI)]) (by assumption)⟩
        · unfold hitOf; rw [if_neg (by omega)]; exact decide_eq_true (by assumption)
        · intro z h1 h2 h3 h4; simp only [if_neg h1, if_neg h2, if_neg h3, if_neg h4]
      · refine Or.inr ⟨?_, rfl, _, _, _, rfl, ?_, by assumption, by assumption⟩
        · unfold hitOf; rw [if_neg (by omega)]; exact decide_eq_false (by assumption)
        · intro z h1 h2; simp only [if_neg h1, if_neg h2]
    case els2 =>
      intro h3 tk3 u3 F3 N3
      replace F3 : Fr s.heap s.heap.objs.size h3 _ := F3
      replace N3 : News s.heap s.heap.objs.size h3 _ := N3
      k_steps
      · rw [show dfltOf i = Str.ofString "?" from if_pos (by omega)]
        refine ⟨rfl, _, _, _, _, _, rfl, ?_, by assumption, news_push (pre := []) (by assumption)⟩
        intro z h1 h2 h3 h4; simp only [if_neg h1, if_neg h2, if_neg h3, if_neg h4]
      · rw [show dfltOf i = Str.ofString "-" from if_neg (by omega)]
        refine ⟨rfl, _, _, _, _, _, rfl, ?_, by assumption, news_push (pre := []) (by assumption)⟩
        intro z h1 h2 h3 h4; simp only [if_neg h1, if_neg h2, if_neg h3, if_neg h4]
  case fin =>
    intro h tk l n u F2 N2 hl
    replace F2 : Fr s.heap s.heap.objs.size h _ := F2
    replace N2 : News s.heap s.heap.objs.size h _ := N2
    k_steps
    refine SC.join (News.isList N2 (.head _)) hl ?_ ?_
    · exact join_ok y
    · intro t' k; exact ⟨⟨_, rfl⟩, keeps_fr F2⟩
theorem use_mode {w : World} {s : Shared} {A : Around} {h₀ : Heap} {L : Addr} {m mg mb : Str → Option Value} {news : List (Addr × Obj)} {Q E : Value → Shared → Prop} {y : Int} {t1 : Tok}
    (F : Fr h₀ L s.heap m) (N : News h₀ L s.heap news) (B : Bs w mg mb h₀) (hh : A.handled = none) (hd : A.depth ≤ 800) (hu : A.units ≤ 8000)
    (h : ∀ h' tk t, Fr h₀ L h' m → News h₀ L h' news → Q (.str (fm y) t) { s with heap := h', toks := tk }) : wpAny (model P w) A (call (.ref 68) [.int y t1]) Q E s :=
  wpAny_mono (wpAny_le (c_mode0 (B.keeps F.keep) y t1) hh hd rfl rfl hu) (fun v s' q => by
    obtain ⟨⟨t, rfl⟩, h', tk, rfl, k⟩ := q
    exact h h' tk t (fr_keeps F k) (news_keeps N k)) (fun _ _ q => q.elim)
theorem sum_len : ∀ (l : List Str), (∀ c ∈ l, c.length = 1) → (l.map (·.length)).sum = l.length
  | [], _ => rfl
  | c :: r, h => by
    rw [List.map_cons, List.sum_cons, h c (.head _), sum_len r fun x hx => h x (.tail _ hx), List.length_cons]; omega
theorem fm_len (y : Int) : (fm y).length = 10 := by
  unfold fm Txt.join
  rw [size_glued, sum_len _ (chars_len y fmRows 0 rows_len), charsOf_length]
  decide +kernel
end
-- F1
section
open PySem.Builtin PySem.Builtin.ObjectAttr
/-! a plain function's own attributes -/
theorem slot_fn_sa : Slot "function" "__setattr__" "object.__setattr__" :=
  .of (owner := "object") (n := "__setattr__") (by rw [typeLookup_type, builtinLookup_eq_fast]; kernel_rfl) (by decide +kernel) (by decide +kernel) (by decide +kernel)
    (by first | exact .inl (by decide +kernel) | exact .inr (by decide +kernel)) (by rw [isSubtype_type]; kernel_rfl)
theorem slot_fn_ga : Slot "function" "__getattribute__" "object.__getattribute__" :=
  .of (owner := "object") (n := "__getattribute__") (by rw [typeLookup_type, builtinLookup_eq_fast]; kernel_rfl) (by decide +kernel) (by decide +kernel) (by decide +kernel)
    (by first | exact .inl (by decide +kernel) | exact .inr (by decide +kernel)) (by rw [isSubtype_type]; kernel_rfl)
theorem args_sa (a b c : Value) : argsOk "object.__setattr__" ⟨[a, b, c], []⟩ := by unfold argsOk; kernel_rfl
theorem args_ga (a b : Value) : argsOk "object.__getattribute__" ⟨[a, b], []⟩ := by unfold argsOk; kernel_rfl
theorem entry_sa : entryFor table "object.__setattr__" = some Builtin.«object.__setattr__» := entryFor_of_tree (by kernel_rfl)
theorem entry_ga : entryFor table "object.__getattribute__" = some Builtin.«object.__getattribute__» := entryFor_of_tree (by kernel_rfl)
theorem mro_fn : mroOf (.type "function") = pure [.type "function", .type "object"] := by rw [mroOf_type]; kernel_rfl
theorem lk_fn_place : typeLookup (.type "function") (Str.ofString "place") = pure none := by rw [typeLookup_type, builtinLookup_eq_fast]; kernel_rfl
theorem lk_fn_tag : typeLookup (.type "function") (Str.ofString "tag") = pure none := by rw [typeLookup_type, builtinLookup_eq_fast]; kernel_rfl
theorem passes_fn (self : Value) : refuseLoop self "__setattr__" [.type "function", .type "object"] = pure () := by
  unfold refuseLoop
  kernel_rfl
section
variable {prog : Program} {w : World} {A : Around} {E : Value → Shared → Prop} {h : Heap} {g : Array GenState} {d : Drawn} {t : Nat} {os : OsState} {name : Str} {v : Value} {f : Addr} {fd : FuncData}
set_option maxHeartbeats 2000000 in
theorem store_fn0 {tk : Tok} {Q : Fin → Shared → Prop} (hB : typeLookup (.type "function") name = pure none) (hx : h.get? f = some ⟨.type "function", none, .func fd, #[]⟩)
    (hq : ∀ dx h' tk', h.objs.size ≤ dx → h'.Ns1 dx (fun y => if y = name then some v else none) → h'.get? f = some ⟨.type "function", some dx, .func fd, #[]⟩ → (∀ b o, b ≠ f → h.get? b = some o → h'.get? b = some o) → Q (.done (.ret .none)) ⟨h', g, d, tk', os⟩) :
    wpAny (model prog w) A (Builtin.«object.__setattr__» ⟨[.ref f, .str name tk, v], []⟩) Q E ⟨h, g, d, t, os⟩ := by
  have hpass := passes_fn (.ref f)
  unfold Builtin.«object.__setattr__»
  repeat (fail_if_success (with_reducible show wpAny _ _ (storeInDict _ _ _ _) _ _ _)
          first | rw [refuse_eq] | (rw [mro_fn]) | (rw [hpass]) | (with_reducible refine wpAny_loadPart_at hx ?_) | rw [hB] | wp_step)
  have hxs : f ≠ h.objs.size := Nat.ne_of_lt (Heap.lt_size hx)
  have hx₁ : (h.push { cls := .type "dict", data := .dict #[] }).get? f = some ⟨.type "function", none, .func fd, #[]⟩ := Heap.get?_push_of_some _ hx
  have hgd : ((h.push { cls := .type "dict", data := .dict #[] }).update f fun o => { cls := o.cls, dict := some h.objs.size, data := o.data, slots := o.slots }).get? h.objs.size
      = some { cls := .type "dict", data := .dict #[] } :=
    (Heap.get?_update_ne _ _ _ _ hxs.symm).trans (Heap.get?_push_at rfl rfl)
  have hnd : ((h.push { cls := .type "dict", data := .dict #[] }).update f fun o => { cls := o.cls, dict := some h.objs.size, data := o.data, slots := o.slots }).Ns h.objs.size (fun _ => none) :=
    ⟨_, #[], _, hgd, rfl, fun e he => absurd he (by simp), fun _ => rfl⟩
  unfold storeInDict newKeyGuard
  refine wpAny_bind (wpAny_pure (wpAny_bind (wpAny_nsSet1 (Heap.Ns1.of_empty hnd) fun h' hn' hs => ?_)))
  obtain ⟨oD, esD, epD, hoD, hdD, hcD⟩ := hn'.count (Within.cons name v Within.nil)
  refine wpAny_bind (wpAny_lookBehind hoD (by rw [hdD]; exact pastItsLine_dict (Nat.le_trans hcD (by rw [List.length_cons, List.length_nil, sizeLine_eq]; omega))) ?_)
  refine wpAny_pure (hq h.objs.size h' _ (Nat.le_refl _) hn' ?_ fun b o hb e => ?_)
  · exact (hs.2 f hxs).trans (Heap.get?_update_self _ hx₁ rfl)
  · exact (hs.2 b (Nat.ne_of_lt (Heap.lt_size e))).trans ((Heap.get?_update_ne _ _ _ _ hb).trans (Heap.get?_push_of_some _ e))
set_option maxHeartbeats 2000000 in
theorem store_fn1 {tk : Tok} {Q : Fin → Shared → Prop} {dx : Addr} {mA : Str → Option Value} {ns : List Str} (hB : typeLookup (.type "function") name = pure none) (hx : h.get? f = some ⟨.type "function", some dx, .func fd, #[]⟩)
    (hns : h.Ns1 dx mA) (hw : Within mA ns) (hl : ns.length + 1 ≤ sizeLine)
    (hq : ∀ h' tk', h'.Ns1 dx (fun y => if y = name then some v else mA y) → (∀ b o, b ≠ dx → h.get? b = some o → h'.get? b = some o) → Q (.done (.ret .none)) ⟨h', g, d, tk', os⟩) :
    wpAny (model prog w) A (Builtin.«object.__setattr__» ⟨[.ref f, .str name tk, v], []⟩) Q E ⟨h, g, d, t, os⟩ := by
  have hpass := passes_fn (.ref f)
  unfold Builtin.«object.__setattr__»
  repeat (fail_if_success (with_reducible show wpAny _ _ (storeInDict _ _ _ _) _ _ _)
          first | rw [refuse_eq] | (rw [mro_fn]) | (rw [hpass]) | (with_reducible refine wpAny_loadPart_at hx ?_) | rw [hB] | wp_step)
  unfold storeInDict newKeyGuard
  refine wpAny_bind (wpAny_pure (wpAny_bind (wpAny_nsSet1 hns fun h' hn' hs => ?_)))
  obtain ⟨oD, esD, epD, hoD, hdD, hcD⟩ := hn'.count (Within.cons name v hw)
  refine wpAny_bind (wpAny_lookBehind hoD (by rw [hdD]; exact pastItsLine_dict (Nat.le_trans hcD (by rw [List.length_cons]; omega))) ?_)
  exact wpAny_pure (hq h' _ hn' fun b o hb e => (hs.2 b hb).trans e)
set_option maxHeartbeats 2000000 in
theorem load_fn {tk : Tok} {Q : Fin → Shared → Prop} {dx : Addr} {mA : Str → Option Value} (hB : typeLookup (.type "function") name = pure none) (hx : h.get? f = some ⟨.type "function", some dx, .func fd, #[]⟩)
    (hns : h.Ns dx mA) (hv : mA name = some v) (hq : Q (.done (.ret v)) ⟨h, g, d, t, os⟩) :
    wpAny (model prog w) A (Builtin.«object.__getattribute__» ⟨[.ref f, .str name tk], []⟩) Q E ⟨h, g, d, t, os⟩ := by
  unfold Builtin.«object.__getattribute__»
  repeat (fail_if_success (with_reducible show wpAny _ _ (nsGet _ _) _ _ _)
          first | (with_reducible refine wpAny_loadPart_at hx ?_) | rw [hB] | wp_step)
  refine wpAny_nsGet hns ?_
  rw [hv]
  exact wpAny_bind (wpAny_rule (wpAny_pure (wpAny_pure hq)))
end
section
variable {prog : Program} {w : World} {A : Around} {E : Value → Shared → Prop} {s : Shared} {name : Str} {v : Value} {f : Addr} {fd : FuncData}
theorem setAttr_fn0 {Q : Unit → Shared → Prop} (hB : typeLookup (.type "function") name = pure none) (hx : s.heap.get? f = some ⟨.type "function", none, .func fd, #[]⟩)
    (hq : ∀ dx h' tk', s.heap.objs.size ≤ dx → h'.Ns1 dx (fun y => if y = name then some v else none) → h'.get? f = some ⟨.type "function", some dx, .func fd, #[]⟩ → (∀ b o, b ≠ f → s.heap.get? b = some o → h'.get? b = some o) → Q () { s with heap := h', toks := tk' }) :
    wpAny (model prog w) A (setAttr (.ref f) name v) Q E s := by
  have hT : ∀ tk, Shared.TypeIs { s with toks := tk } (.ref f) "function" := fun _ => ⟨_, hx, rfl⟩
  unfold setAttr
  refine wpAny_bind (wpAny_mkText ?_)
  refine wpAny_bind (wpAny_callSpecial?_slot (name := Str.ofString "__setattr__") (hT _) slot_fn_sa (wpAny_call_entry slot_fn_sa (hT _) entry_sa ?_ (args_sa _ _ _)))
  exact store_fn0 hB hx fun dx h' tk' h1 h2 h3 h4 => ⟨_, rfl, wpAny_pure (hq dx h' tk' h1 h2 h3 h4)⟩
theorem setAttr_fn1 {Q : Unit → Shared → Prop} {dx : Addr} {mA : Str → Option Value} {ns : List Str} (hB : typeLookup (.type "function") name = pure none) (hx : s.heap.get? f = some ⟨.type "function", some dx, .func fd, #[]⟩)
    (hns : s.heap.Ns1 dx mA) (hw : Within mA ns) (hl : ns.length + 1 ≤ sizeLine)
    (hq : ∀ h' tk', h'.Ns1 dx (fun y => if y = name then some v else mA y) → (∀ b o, b ≠ dx → s.heap.get? b = some o → h'.get? b = some o) → Q () { s with heap := h', toks := tk' }) :
    wpAny (model prog w) A (setAttr (.ref f) name v) Q E s := by
  have hT : ∀ tk, Shared.TypeIs { s with toks := tk } (.ref f) "function" := fun _ => ⟨_, hx, rfl⟩
  unfold setAttr
  refine wpAny_bind (wpAny_mkText ?_)
  refine wpAny_bind (wpAny_callSpecial?_slot (name := Str.ofString "__setattr__") (hT _) slot_fn_sa (wpAny_call_entry slot_fn_sa (hT _) entry_sa ?_ (args_sa _ _ _)))
  exact store_fn1 hB hx hns hw hl fun h' tk' h1 h2 => ⟨_, rfl, wpAny_pure (hq h' tk' h1 h2)⟩
theorem getAttr_fn {Q : Value → Shared → Prop} {dx : Addr} {mA : Str → Option Value} {ex : Bool} (hB : typeLookup (.type "function") name = pure none) (hx : s.heap.get? f = some ⟨.type "function", some dx, .func fd, #[]⟩)
    (hns : s.heap.Ns dx mA) (hv : mA name = some v) (hh : handedOut v = pure v) (hq : Q v { s with toks := s.toks + 1 }) :
    wpAny (model prog w) A (getAttr (.ref f) name ex) Q E s := by
  have hT : ∀ tk, Shared.TypeIs { s with toks := tk } (.ref f) "function" := fun _ => ⟨_, hx, rfl⟩
  unfold getAttr
  refine wpAny_bind (wpAny_mkText ?_)
  unfold getAttrBy
  refine wpAny_holding ?_
  refine wpAny_bind (wpAny_typeOf (hT _) ?_)
  rw [slot_fn_ga.lookup]
  refine wpAny_bind (wpAny_pure ?_)
  show wpAny _ _ (getAttrByItsOwn (.ref f) (.str name s.toks) (.type "function") (.builtin "object.__getattribute__") true ex) _ _ _
  unfold getAttrByItsOwn
  refine wpAny_bind (m := hookBefore (.type "function")) (wpAny_of_eq (a := none) rfl ?_)
  refine wpAny_bind (wpAny_attempt ?_)
  show wpAny _ _ (callGetattribute (.ref f) (.str name s.toks) (.builtin "object.__getattribute__") ex) _ _ _
  unfold callGetattribute
  rw [if_neg (by simp [onTheHeap])]
  unfold boundAndCalled
  rw [slot_fn_ga.bind]
  refine wpAny_bind (wpAny_pure (wpAny_call_entry slot_fn_ga (hT _) entry_ga ?_ (args_ga _ _)))
  refine load_fn hB hx hns hv ⟨_, rfl, ?_⟩
  show wpAny _ _ (handedOut v) _ _ _
  rw [hh]
  exact wpAny_pure hq
end
end
-- C5
section
/-! tables of codes -/
noncomputable def TabRec (h : Heap) (q : Str) : List Value → Prop
  | [] => True
  | .int _ _ :: .int _ _ :: c :: rest => (∃ c', c = .ref c' ∧ c' ≠ 98 ∧ c' ≠ 16 ∧ h.CodeRec (.ref c') q) ∧ TabRec h q rest
  | _ => False
theorem TabRec.ok {h : Heap} {q : Str} (l : List Value) (t : TabRec h q l) : TriplesOk l := by
  fun_induction TabRec h q l with
  | case1 => trivial
  | case2 a t b u x rest ih => exact ih t.2
  | case3 => exact t.elim
theorem TabRec.mono {h h' : Heap} {q : Str} (l : List Value) (t : TabRec h q l) (k : ∀ c', c' ≠ 98 → c' ≠ 16 → h.CodeRec (.ref c') q → h'.CodeRec (.ref c') q) : TabRec h' q l := by
  fun_induction TabRec h q l with
  | case1 => trivial
  | case2 a t b u x rest ih => obtain ⟨⟨c', e, n1, n2, hc⟩, hr⟩ := t; exact ⟨⟨c', e, n1, n2, k _ n1 n2 hc⟩, ih hr⟩
  | case3 => exact t.elim
theorem TabRec.snoc {h : Heap} {q : Str} {a b : Int} {c' : Addr} (l : List Value) (t : TabRec h q l) (n1 : c' ≠ 98) (n2 : c' ≠ 16) (hc : h.CodeRec (.ref c') q) : TabRec h q (l ++ [rawInt a, rawInt b, .ref c']) := by
  fun_induction TabRec h q l with
  | case1 => exact ⟨⟨c', rfl, n1, n2, hc⟩, trivial⟩
  | case2 a t b u x rest ih => exact ⟨t.1, ih t.2⟩
  | case3 => exact t.elim
theorem TabRec.among {h : Heap} {q : Str} (pos : Pos) (l : List Value) (t : TabRec h q l) : codeAmong pos l = none ∨ ∃ c', codeAmong pos l = some (.ref c') ∧ h.CodeRec (.ref c') q := by
  fun_induction TabRec h q l with
  | case1 => exact .inl rfl
  | case2 a t b u x rest ih =>
    obtain ⟨⟨c', rfl, _, _, hc⟩, hr⟩ := t
    unfold codeAmong
    split
    · exact .inr ⟨c', rfl, hc⟩
    · exact ih hr
  | case3 => exact t.elim
noncomputable def TabOk (h : Heap) (P : Addr) (q : Str) : Prop := ∃ ps : Array Value, h.get? P = some (tabObj ps) ∧ TabRec h q ps.toList
noncomputable def qLam : Str := Str.ofString "_law_element" ++ Str.ofString ".<locals>." ++ Str.ofString "<lambda>"
noncomputable def qSel : Str := Str.ofString "_prepare_tag" ++ Str.ofString ".<locals>." ++ Str.ofString "select"
structure TI (h : Heap) : Prop where
  t98 : TabOk h 98 qLam
  t16 : TabOk h 16 qSel
theorem codeRec_but {h h' : Heap} {q : Str} (k : ∀ b o, b ≠ 98 → b ≠ 16 → h.get? b = some o → h'.get? b = some o) : ∀ c', c' ≠ 98 → c' ≠ 16 → h.CodeRec (.ref c') q → h'.CodeRec (.ref c') q := by
  rintro c' n1 n2 ⟨c, o, vs, t, e, ho, r⟩
  cases e
  exact ⟨c', o, vs, t, rfl, k _ _ n1 n2 ho, r⟩
theorem TabOk.but {h h' : Heap} {P : Addr} {q : Str} (t : TabOk h P q) (k : ∀ b o, b ≠ 98 → b ≠ 16 → h.get? b = some o → h'.get? b = some o) (kP : ∀ o, h.get? P = some o → h'.get? P = some o) : TabOk h' P q :=
  let ⟨ps, e, r⟩ := t; ⟨ps, kP _ e, r.mono _ (codeRec_but k)⟩
theorem TI.keeps {h h' : Heap} (t : TI h) (k : ∀ b o, h.get? b = some o → h'.get? b = some o) : TI h' :=
  ⟨t.t98.but (fun b o _ _ e => k b o e) (k 98), t.t16.but (fun b o _ _ e => k b o e) (k 16)⟩
/-- all but the two tables as it was -/
noncomputable def Gk (s s' : Shared) : Prop := ∃ h' tk, s' = { s with heap := h', toks := tk } ∧ ∀ b o, b ≠ 98 → b ≠ 16 → s.heap.get? b = some o → h'.get? b = some o
theorem Gk.of {s s' : Shared} (k : Keeps s s') : Gk s s' := let ⟨h, tk, e, r⟩ := k; ⟨h, tk, e, fun b o _ _ q => r b o q⟩
/-! in, over the heap with a table hid -/
theorem enterG {prog : Program} {w : World} {A : Around} {s : Shared} {g : Heap} {K : Frag} {R : Result → Shared → Prop} {name qual : Str} {params : Arguments} {body : List Stmt} {scope : Scope} {dV kV doc pm cdv ct oc : Value}
    {an od : Option Addr} {osl : Array (Option Value)} {f : Addr} {args : Args} {binds : List (Str × Value)}
    (X : K.In g) (hlim : g.NoLimit) (kg : ∀ b o, g.get? b = some o → s.heap.get? b = some o) (hsz : g.objs.size ≤ s.heap.objs.size)
    (ho : K.lookup f = some ⟨oc, od, .func (fnOf name qual params body scope dV kV doc pm an cdv ct), osl⟩) (hcd : codeIn K cdv qual = true) (hroom : A.depth < recursionLimit)
    (hbind : BindsTo s (fnOf name qual params body scope dV kV doc pm an cdv ct) args binds) (hloc : ∀ y ∈ binds, scope.names.lookup y.1 = some .local)
    (h : ∀ h₁, Fr g s.heap.objs.size h₁ (fun y => binds.reverse.lookup y) → (∀ b o, s.heap.get? b = some o → h₁.get? b = some o) →
      wpAny (model prog w) (A.deeper (envOf qual scope s.heap.objs.size f cdv)) (execs body (envOf qual scope s.heap.objs.size f cdv))
        (fun fl s' => R (.ok (.ret (match fl with | .ret v => v | _ => .none))) s') (fun _ _ => False) { s with heap := h₁, toks := s.toks + binds.length })
    (hco : scope.isCoroutine = false) (hgen : scope.isGenerator = false) (hk : scope.kind = .function)
    (hcell : ∀ x ∈ scope.names, x.2 ≠ .cell) : codeAny (model prog w) A (.call (.ref f) args) R s :=
  codeAny_call_def (fd := fnOf name qual params body scope dV kV doc pm an cdv ct) (body := body) (binds := binds) hroom (kg _ _ (X _ _ ho)) rfl (hlim.keeps kg) (codeRec_of (X.keeps kg) hcd) rfl hbind hcell hloc
    (fun h₁ hns hk₁ => wpAny_mono (h h₁ ⟨hns, fun b o e => hk₁ b o (kg b o e), hsz⟩ hk₁) (fun _ _ q => q) (fun _ _ q => q.elim)) hco hgen hk
/-! support -/
noncomputable def Supp (h : Heap) (sp : List (Addr × Obj)) : Prop := ∀ q ∈ sp, h.get? q.1 = some q.2
noncomputable def FreshO (h : Heap) (q : Addr × Obj) : Prop := q.1 ≠ 98 ∧ q.1 ≠ 16 ∧ (h.get? q.1 = none ∨ ∃ vs x t, q.2.data = .fields vs ∧ vs[1]? = some (.str x t))
/-! an element -/
noncomputable def NsO (od : Obj) (mA : Str → Option Value) : Prop := ∀ (h : Heap) (dx : Addr), h.get? dx = some od → h.Ns1 dx mA
theorem nsO_of {h : Heap} {dx : Addr} {mA : Str → Option Value} (x : h.Ns1 dx mA) : ∃ od, h.get? dx = some od ∧ NsO od mA := by
  obtain ⟨o, es, ep, e, r⟩ := x
  exact ⟨o, e, fun h' dx' e' => ⟨o, es, ep, e', r⟩⟩
noncomputable abbrev fnO (dx : Option Addr) (fd : FuncData) : Obj := ⟨.type "function", dx, .func fd, #[]⟩
structure Elem (h : Heap) (f : Addr) (place tag : Value) : Prop where
  ex : ∃ fd dx od mA, h.get? f = some (fnO (some dx) fd) ∧ h.get? dx = some od ∧ NsO od mA ∧ mA (Str.ofString "place") = some place ∧ mA (Str.ofString "tag") = some tag ∧ dx ≠ 98 ∧ dx ≠ 16 ∧ f ≠ 98 ∧ f ≠ 16
theorem Elem.but {h h' : Heap} {f : Addr} {p t : Value} (x : Elem h f p t) (k : ∀ b o, b ≠ 98 → b ≠ 16 → h.get? b = some o → h'.get? b = some o) : Elem h' f p t :=
  let ⟨fd, dx, od, mA, h1, h2, h3, h4, h5, h6, h7, h8, h9⟩ := x.ex; ⟨fd, dx, od, mA, k _ _ h8 h9 h1, k _ _ h6 h7 h2, h3, h4, h5, h6, h7, h8, h9⟩
section
variable {prog : Program} {w : World} {A : Around} {E : Value → Shared → Prop} {s : Shared} {h₀ : Heap} {L f : Addr} {m : Str → Option Value} {rest : List (Addr × Obj)} {name : Str} {v : Value} {fd : FuncData}
theorem setK0 {Q : Unit → Shared → Prop} (F : Fr h₀ L s.heap m) (N : News h₀ L s.heap ((f, fnO none fd) :: rest)) (hne : ∀ q ∈ rest, q.1 ≠ f) (hB : typeLookup (.type "function") name = pure none)
    (h : ∀ dx od h' tk, Fr h₀ L h' m → News h₀ L h' ((dx, od) :: (f, fnO (some dx) fd) :: rest) → NsO od (fun y => if y = name then some v else none) → (∀ q ∈ ((f, fnO (some dx) fd) :: rest), q.1 < dx) → Q () { s with heap := h', toks := tk }) :
    wpAny (model prog w) A (setAttr (.ref f) name v) Q E s := by
  have hf := N _ (.head _)
  refine setAttr_fn0 hB hf.1 fun dx h' tk hge hns hf' hk => ?_
  obtain ⟨od, hod, hO⟩ := nsO_of hns
  have hLs : L < s.heap.objs.size := F.ns.lt
  refine h dx od h' tk ⟨F.ns.at' fun o e => hk _ o (fun q => hf.2.1 q.symm) e, fun b o e => hk b o (fun q => by rw [q, hf.2.2] at e; cases e) (F.keep b o e), F.above⟩ (fun q hq => ?_) hO (fun q hq => ?_)
  · rcases List.mem_cons.mp hq with rfl | hq
    · exact ⟨hod, Nat.ne_of_gt (Nat.lt_of_lt_of_le hLs hge), Heap.get?_none_of_le (Nat.le_trans F.above (Nat.le_of_lt (Nat.lt_of_lt_of_le hLs hge)))⟩
    · rcases List.mem_cons.mp hq with rfl | hq
      · exact ⟨hf', hf.2⟩
      · have n := N q (.tail _ hq)
        exact ⟨hk _ _ (hne q hq) n.1, n.2⟩
  · rcases List.mem_cons.mp hq with rfl | hq
    · exact Nat.lt_of_lt_of_le (Heap.lt_size hf.1) hge
    · exact Nat.lt_of_lt_of_le (Heap.lt_size (N q (.tail _ hq)).1) hge
theorem setK1 {Q : Unit → Shared → Prop} {dx : Addr} {od : Obj} {mA : Str → Option Value} {ns : List Str} (F : Fr h₀ L s.heap m) (N : News h₀ L s.heap ((dx, od) :: (f, fnO (some dx) fd) :: rest)) (hne : ∀ q ∈ ((f, fnO (some dx) fd) :: rest), q.1 ≠ dx)
    (hB : typeLookup (.type "function") name = pure none) (hO : NsO od mA) (hw : PySem.Within mA ns) (hl : ns.length + 1 ≤ sizeLine)
    (h : ∀ od' h' tk, Fr h₀ L h' m → News h₀ L h' ((dx, od') :: (f, fnO (some dx) fd) :: rest) → NsO od' (fun y => if y = name then some v else mA y) → Q () { s with heap := h', toks := tk }) :
    wpAny (model prog w) A (setAttr (.ref f) name v) Q E s := by
  have hd := N _ (.head _)
  have hf := N _ (.tail _ (.head _))
  refine setAttr_fn1 hB hf.1 (hO _ _ hd.1) hw hl fun h' tk hns hk => ?_
  obtain ⟨od', hod, hO'⟩ := nsO_of hns
  refine h od' h' tk ⟨F.ns.at' fun o e => hk _ o (fun q => hd.2.1 q.symm) e, fun b o e => hk b o (fun q => by rw [q, hd.2.2] at e; cases e) (F.keep b o e), F.above⟩ (fun q hq => ?_) hO'
  rcases List.mem_cons.mp hq with rfl | hq
  · exact ⟨hod, hd.2⟩
  · have n := N q (.tail _ hq)
    exact ⟨hk _ _ (hne q hq) n.1, n.2⟩
end
end
-- C6
section
theorem lines_C6_1 : True := by
  k_with_none
  k_with "mine in" => ((case k6 => k_is); (case k7 => k_is); (case k8 => decide); (case k9 => exact BindsTo.of_eq rfl); (case kB => exact locs rfl); (case c2 => exact rfl); (case c3 => exact rfl); (case c4 => exact rfl); (case c5 => decide))
  k_with "call ref" => (k_here; (with_reducible show wpAny _ _ (call (Value.ref 68) [Value.int _ _]) _ _ _); refine' use_mode ?zqF ?zqN ?zqB rfl (Nat.le_of_ble_eq_true rfl) (Nat.le_of_ble_eq_true rfl) ?_; (case zqF => k_asm); (case zqN => k_asm); (case zqB => assumption); intro h' tk' t' F' N'; (try k_sweep))
  k_with "eval Lambda" => (k_here; k_dflt (refine' kla_eval ?zqd0 ?_; (case zqd0 => exact rfl)); first
  | (k_dflt (refine' kla_nest ?zqF ?zqN ?zqT ?zqC ?zqcd ?zqU ?zqt ?zqn ?zqcl ?_; (case zqF => k_asm); (case zqN => k_asm); (case zqT => k_asm); (case zqcd => exact rfl); (case zqC => assumption); (case zqU => k_updF); (case zqt => assumption); (case zqn => assumption); (case zqcl => exact rfl)); intro f' c' oc' vs' t' ct' h' tk' F' N' d1' d2' l1 l2; (try dsimp only at N'); (try k_lt l1); (try k_lt2 l2))
  | (k_dflt (refine' kla_hit ?zqF ?zqN ?zqT ?zqC ?zqcd ?zqmem ?zqt ?zqn ?zqcl ?_; (case zqF => k_asm); (case zqN => k_asm); (case zqT => k_asm); (case zqcd => exact rfl); (case zqC => assumption); (case zqmem => k_mem); (case zqt => assumption); (case zqn => assumption); (case zqcl => exact rfl)); intro f' ct' h' tk' F' N' l1; (try dsimp only at N'); (try k_lt l1)))
  k_with "setAttr ref" => (k_here; first
  | (k_dflt (refine' setK0 ?zqF ?zqN ?zqne ?zqb ?_; (case zqF => k_asm); (case zqN => k_asm); (case zqne => k_all); (case zqb => first | exact lk_fn_place | exact lk_fn_tag)); intro dx' od' h' tk' F' N' o' l1; (try k_lt l1); (try k_sweep))
  | (k_dflt (refine' setK1 ?zqF ?zqN ?zqne ?zqb ?zqo ?zqw ?zql ?_; (case zqF => k_asm); (case zqN => k_asm); (case zqne => k_all); (case zqb => first | exact lk_fn_place | exact lk_fn_tag); (case zqo => assumption); (case zqw => within_ways); (case zql => decide)); intro od' h' tk' F' N' o'; (try k_sweep)))
  trivial
theorem len_b1 : (Str.ofString "{").length = 1 := by decide +kernel
theorem len_b2 : (Str.ofString "}").length = 1 := by decide +kernel
theorem len_b3 : (Str.ofString "{}").length = 2 := by decide +kernel
local macro_rules | `(tactic| size_fits) => `(tactic| (simp only [Str.length_append, fm_len, len_b1, len_b2, len_b3]; rw [sizeLine_eq]; omega))
noncomputable def tagOf (shape : Str) (mode : Int) (name : Str) : Option Str :=
  if (shape == Str.ofString "rights") = true then some (Str.ofString "{" ++ fm mode ++ Str.ofString "}" ++ name)
  else if (shape == Str.ofString "alone") = true then some name
  else if (shape == Str.ofString "open") = true then some (Str.ofString "{" ++ fm mode ++ name)
  else if (shape == Str.ofString "empty") = true then some (Str.ofString "{}" ++ name)
  else none
noncomputable def TagIs (v : Value) (o : Option Str) (place : Value) : Prop := match o with
  | some x => ∃ t, v = .str x t
  | none => v = place
noncomputable def ElemPost (place : Value) (o : Option Str) (s : Shared) (v : Value) (s' : Shared) : Prop := ∃ f tagv sp, v = .ref f ∧ (∀ h, Supp h sp → Elem h f place tagv) ∧ Supp s'.heap sp ∧ (∀ q ∈ sp, FreshO s.heap q) ∧ TagIs tagv o place ∧ Gk s s' ∧ TI s'.heap
theorem elem_end {s : Shared} {h : Heap} {L f dx : Addr} {m mA : Str → Option Value} {fd : FuncData} {od : Obj} {rest : List (Addr × Obj)} {place tagv : Value} {o : Option Str} {tk : Nat} {ps' : Array Value}
    (F : Fr (hideAll s.heap [98]) L h m) (N : News (hideAll s.heap [98]) L h ((dx, od) :: (f, fnO (some dx) fd) :: rest)) (hO : NsO od mA) (e1 : mA (Str.ofString "place") = some place) (e2 : mA (Str.ofString "tag") = some tagv)
    (hdx : @LT.lt Nat _ 98 dx) (hf : @LT.lt Nat _ 98 f) (ht : TagIs tagv o place) (htab : (98, tabObj ps') ∈ rest) (hrec : TabRec h qLam ps'.toList) (t16 : TabOk s.heap 16 qSel) :
    ElemPost place o s (.ref f) { s with heap := h, toks := tk } := by
  have k : ∀ b o, b ≠ 98 → s.heap.get? b = some o → h.get? b = some o := fun b o hb e => F.keep b o (hideAll_get _ e (by intro q; exact hb (List.mem_singleton.mp q)))
  have hf98 : f ≠ 98 := Nat.ne_of_gt hf
  have hd98 : dx ≠ 98 := Nat.ne_of_gt hdx
  have nn : ∀ c, c ≠ 98 → (hideAll s.heap [98]).get? c = none → s.heap.get? c = none := fun c hc e => by
    cases q : s.heap.get? c with
    | none => rfl
    | some o' => rw [hideAll_get [98] q (by intro z; exact hc (List.mem_singleton.mp z))] at e; cases e
  have hf16 : f ≠ 16 := fun q => (by subst q; exact absurd hf (by decide))
  have hd16 : dx ≠ 16 := fun q => (by subst q; exact absurd hdx (by decide))
  refine ⟨f, tagv, [(f, fnO (some dx) fd), (dx, od)], rfl, fun h' hs => ⟨fd, dx, od, mA, hs _ (.head _), hs _ (.tail _ (.head _)), hO, e1, e2, hd98, hd16, hf98, hf16⟩, fun q hq => ?_, fun q hq => ?_, ht,
    ⟨h, tk, rfl, fun b o hb _ e => k b o hb e⟩, ⟨⟨ps', (N _ (.tail _ (.tail _ htab))).1, hrec⟩, t16.but (fun b o hb _ e => k b o hb e) (k 16 · (by decide))⟩⟩
  · rcases List.mem_cons.mp hq with rfl | hq
    · exact (N _ (.tail _ (.head _))).1
    · rw [List.mem_singleton.mp hq]; exact (N _ (.head _)).1
  · rcases List.mem_cons.mp hq with rfl | hq
    · exact ⟨hf98, hf16, .inl (nn _ hf98 (N _ (.tail _ (.head _))).2.2)⟩
    · rw [List.mem_singleton.mp hq]; exact ⟨hd98, hd16, .inl (nn _ hd98 (N _ (.head _)).2.2)⟩
set_option maxHeartbeats 4000000 in
theorem c_elem0 {w : World} {s : Shared} {g : Heap} {mg mb : Str → Option Value} (B : Bs w mg mb g) (kg : ∀ b o, g.get? b = some o → s.heap.get? b = some o) (n98 : g.get? 98 = none)
    (C : CodeHd g 102 98) (I : TI s.heap) (place : Int) (shape : Str) (mode : Int) (name : Str) (hname : name.length ≤ 2) (t1 t2 t3 t4 : Tok) :
    wpAny (model P w) (AA 7) (call (.ref 103) [.int place t1, .str shape t2, .int mode t3, .str name t4]) (ElemPost (.int place t1) (tagOf shape mode name) s) (fun _ _ => False) s := by
  obtain ⟨ps, hps, hrec⟩ := I.t98
  have t16 := I.t16
  have ht := hrec.ok
  have h98 : (98 : Addr) < s.heap.objs.size := Heap.lt_size hps
  have B' : Bs w mg mb (hideAll s.heap [98]) := B.keeps fun b o e => hideAll_get _ (kg b o e) (by intro q; rw [List.mem_singleton.mp q, n98] at e; cases e)
  have C' : CodeHd (hideAll s.heap [98]) 102 98 := C.keeps fun b o e => hideAll_get _ (kg b o e) (by intro q; rw [List.mem_singleton.mp q, n98] at e; cases e)
  have X := B'.x
  obtain ⟨loose, mean, T⟩ := B'.t
  refine wpAny_call ?_
  refine' enterG (g := hideAll s.heap [98]) (binds := [(Str.ofString "place", .int place t1), (Str.ofString "shape", .str shape t2), (Str.ofString "mode", .int mode t3), (Str.ofString "name", .str name t4)]) X T.nolimit (fun b o e => of_hideAll _ e) (Nat.le_of_eq (hideAll_size _ _)) ?k6 ?k7 ?k8 ?k9 ?kB ?_ ?c2 ?c3 ?c4 ?c5
  walk_at "mine in"
  intro h₁ F kk
  have N : News (hideAll s.heap [98]) s.heap.objs.size h₁ [(98, tabObj ps)] := fun p hp => by
    rw [List.mem_singleton.mp hp]; exact ⟨kk _ _ hps, Nat.ne_of_lt h98, hideAll_none _ (.head _)⟩
  clear kk
  have kr : ∀ {h : Heap} {m : Str → Option Value}, Fr (hideAll s.heap [98]) s.heap.objs.size h m → TabRec h qLam ps.toList := fun F => hrec.mono _ (codeRec_but fun b o hb _ e => F.keep b o (hideAll_get _ e (by intro q; exact hb (List.mem_singleton.mp q))))
  rcases TabRec.among ⟨110, 14, 110, 26⟩ ps.toList hrec with hno | ⟨c', hyes, hc'⟩
  · (try dsimp only)
    (try k_fold)
    k_steps
    all_goals (refine elem_end (by assumption) (by assumption) (by assumption) rfl rfl (by omega) (by omega) ?_ (.tail _ (.head _)) ?_ t16)
    all_goals (first | (unfold tagOf; repeat' (first | rw [if_pos (by assumption)] | rw [if_neg (by simp only [*]; decide)])) | skip)
    all_goals (first | exact ⟨_, rfl⟩ | exact rfl | (rw [Array.toList_append]; refine TabRec.snoc _ (kr (by assumption)) (Nat.ne_of_gt (by omega)) (Nat.ne_of_gt (by omega)) ?_))
    all_goals exact codeRec_news (by k_asm) (by k_mem) (by assumption) (by assumption)
  · (try dsimp only)
    (try k_fold)
    k_steps
    all_goals (refine elem_end (by assumption) (by assumption) (by assumption) rfl rfl (by omega) (by omega) ?_ (.head _) (kr (by assumption)) t16)
    all_goals (unfold tagOf; repeat' (first | rw [if_pos (by assumption)] | rw [if_neg (by simp only [*]; decide)]))
    all_goals (first | exact ⟨_, rfl⟩ | exact rfl)
end
-- S1
section
noncomputable def SlicePost (a b : Value) (s : Shared) (v : Value) (s' : Shared) : Prop := ∃ x, v = .ref x ∧ s.heap.get? x = none ∧ s'.heap.get? x = some { cls := .type "slice", data := .fields #[a, b, .none] } ∧ Keeps s s'
theorem slice_mro : mroOf (.type "slice") = pure [.type "slice", .type "object"] := by rw [mroOf_type]; kernel_rfl
theorem slice_called : TypeCalled "slice" "slice.__new__" "object.__init__" where
  notType := by decide +kernel
  canCreate := by decide +kernel
  mro := ⟨_, _, slice_mro⟩
  made := madeBy_type slice_mro (by rw [typeLookup_type, builtinLookup_eq_fast]; kernel_rfl) (by decide +kernel)
  plain := by decide +kernel
  sub := by rw [isSubtype_type]; kernel_rfl
  init := .of (owner := "object") (n := "__init__") (by rw [typeLookup_type, builtinLookup_eq_fast]; kernel_rfl) (by decide +kernel) (by decide +kernel) (by decide +kernel) (.inl (by decide +kernel)) (by rw [isSubtype_type]; kernel_rfl)
theorem slice_made (a b : Value) : Meets (Builtin.«slice.__new__» ⟨[.type "slice", a, b], []⟩) (fun _ R s => R (.ok (.ret (.ref s.heap.objs.size))) { s with heap := s.heap.push { cls := .type "slice", data := .fields #[a, b, .none] } }) :=
  .of_wp fun prog w A R s hq => by
    obtain ⟨hp, gs, d, tk, os⟩ := s
    have sub := slice_called.sub
    wp_walk
    exact ⟨_, rfl, hq⟩
theorem slice_type (a b : Value) : checkTypeCall "slice" ⟨[a, b], []⟩ = pure () := by kernel_rfl
theorem slice_call (a b : Value) : checkBuiltinCall "slice.__new__" ⟨[.type "slice", a, b], []⟩ = pure () := by kernel_rfl
theorem slice_entry : entryFor table "slice.__new__" = some Builtin.«slice.__new__» := entryFor_of_tree (by kernel_rfl)
theorem c_slice {w : World} {s : Shared} (a b : Value) : wpAny (model P w) (AA 9) (call (.type "slice") [a, b]) (SlicePost a b s) (fun _ _ => False) s := by
  refine callType_new slice_called (by decide) (slice_type a b) (slice_call a b) (fun obj => F.args_object_init_3 obj _ _) slice_entry (slice_made a b) ?_
  have e := Heap.get?_push_size s.heap (o := { cls := .type "slice", data := .fields #[a, b, .none] }) rfl
  exact ⟨⟨_, e, rfl⟩, _, rfl, Heap.get?_none_of_le (Nat.le_refl _), e, _, s.toks, rfl, fun b o x => Heap.get?_push_of_some _ x⟩
noncomputable def AllNe (d : Nat) : List (Addr × Obj) → Prop
  | [] => True
  | p :: r => @Ne Nat p.1 d ∧ AllNe d r
theorem allNe_of {d : Addr} : ∀ {l : List (Addr × Obj)}, (∀ p ∈ l, p.1 ≠ d) → AllNe d l
  | [], _ => trivial
  | p :: _, h => ⟨h p (.head _), allNe_of fun q hq => h q (.tail _ hq)⟩
noncomputable abbrev sliceO (a b : Value) : Obj := { cls := .type "slice", data := .fields #[a, b, .none] }
section
variable {w : World} {s : Shared} {A : Around} {h₀ : Heap} {L : Addr} {m mg mb : Str → Option Value} {news : List (Addr × Obj)} {Q E : Value → Shared → Prop}
theorem use_slice {a b : Value} {t : Sem Value} (c : wpAny (model P w) (AA 9) t (SlicePost a b s) (fun _ _ => False) s)
    (F : Fr h₀ L s.heap m) (N : News h₀ L s.heap news) (hh : A.handled = none) (hd : A.depth ≤ 900) (hu : A.units ≤ 9000)
    (h : ∀ x h' tk, Fr h₀ L h' m → News h₀ L h' ((x, sliceO a b) :: news) → AllNe x news → Q (.ref x) { s with heap := h', toks := tk }) : wpAny (model P w) A t Q E s :=
  wpAny_mono (wpAny_le c hh hd rfl rfl hu) (fun v s' q => by
    obtain ⟨x, rfl, hn, hx, h', tk, rfl, k⟩ := q
    have ne : ∀ q ∈ news, q.1 ≠ x := fun q hq z => by have := (N q hq).1; rw [z, hn] at this; cases this
    refine h x h' tk (fr_keeps F k) (fun p hp => ?_) (allNe_of ne)
    rcases List.mem_cons.mp hp with rfl | hp
    · refine ⟨hx, fun z => ?_, ?_⟩
      · obtain ⟨oL, _, _, hL, _⟩ := F.ns
        rw [← z, hn] at hL; cases hL
      · cases q : h₀.get? x with
        | none => rfl
        | some o => have := F.keep _ _ q; rw [hn] at this; cases this
    · exact news_keeps N k p hp) (fun _ _ q => q.elim)
end
end
-- G1
section
/-! generators: «for elem in result: pre; if test: yield elem» -/
noncomputable def LI (o : Obj) : Prop := o.cls = .type "list_iterator" ∧ ∃ vs, o.data = .fields vs
noncomputable def NLI (h₀ : Heap) (C : Addr) (s₀ s : Shared) : Prop := ∃ h tk, s = { s₀ with heap := h, toks := tk } ∧ ∀ b o, b ≠ C → (h₀.get? b = some o ∨ ¬ LI o) → s₀.heap.get? b = some o → h.get? b = some o
theorem NLI.refl (h₀ : Heap) (C : Addr) (s : Shared) : NLI h₀ C s s := ⟨s.heap, s.toks, rfl, fun _ _ _ _ e => e⟩
theorem NLI.step {h₀ : Heap} {C : Addr} {s₀ s : Shared} (x : NLI h₀ C s₀ s) {h' : Heap} {tk : Nat} (hk : ∀ b o, b ≠ C → (h₀.get? b = some o ∨ ¬ LI o) → s.heap.get? b = some o → h'.get? b = some o) :
    NLI h₀ C s₀ { s with heap := h', toks := tk } := by
  obtain ⟨h, t, rfl, k⟩ := x
  exact ⟨h', tk, rfl, fun b o n q e => hk b o n q (k b o n q e)⟩
noncomputable def Agree (h₀ : Heap) (C : Addr) (s s' : Shared) : Prop := ∀ b o, (h₀.get? b = some o ∨ b = C ∨ LI o) → s.heap.get? b = some o → s'.heap.get? b = some o
noncomputable def gProto (h₀ : Heap) (C : Addr) (ys : List Addr) : Protocol := fun m s₀ v s kap =>
  (∃ e, ys[ys.length - 1 - m]? = some e ∧ v = .ref e) ∧ NLI h₀ C s₀ s ∧ ∀ s'' : Shared, Agree h₀ C s s'' → kap (.send .none) s''
noncomputable def gEnd (h₀ : Heap) (C : Addr) : GenEnd := fun n s₀ r s => r = .ok (.ret .none) ∧ (n = 0 ∧ NLI h₀ C s₀ s)
section
variable {M : Model} {A : Around} {R : GenEnd} {Y : Protocol} {n : Nat} {s₀ : Shared} {c : Code} {fs : List Frame} {s : Shared} {env : Env}
  {K : Flow → Sem PySem.Fin} {H : Value → Sem PySem.Fin} {gd : Bool → Bool} {lv : List Value → List Value}
theorem seg_If {test : Expr} {body orelse : List Stmt} {pos : Pos}
    (h : wpAny M (A.over c fs) (isTrue test env (eval test env)) (fun b s' => if b = true then Seg M A R Y n s₀ c ((execs body env).wrap K H gd lv) fs s' else Seg M A R Y n s₀ c ((execs orelse env).wrap K H gd lv) fs s') (fun x s' => Seg M A R Y n s₀ c (H x) fs s') s) :
    Seg M A R Y n s₀ c ((exec (.If test body orelse pos) env).wrap K H gd lv) fs s := by
  rw [exec_If]
  refine seg_bind_wrap (wpAny_standAt (seg_bind_wrap (wpAny_mono h (fun b s' hb => ?_) fun _ _ e => e)))
  cases b
  · simpa using hb
  · simpa using hb
theorem seg_For {target iter : Expr} {body orelse : List Stmt} {pos : Pos}
    (h : wpAny M (A.over c fs) (eval iter env) (fun x s₁ => wpAny M (A.over c fs) (pyIter x) (fun it s₂ => ∀ (k : Result → Sem PySem.Fin) p lv', (∀ f, k (.ok f) = K f) → Seg M A R Y n s₀ (.forLoop target it body orelse env) (M.den (.forLoop target it body orelse env))
      (.ret k none (gd false) lv' c p [] :: fs) s₂) (fun x s' => Seg M A R Y n s₀ c (H x) fs s') s₁) (fun x s' => Seg M A R Y n s₀ c (H x) fs s') s)
    (hs : ∀ x, foldedSetIterable iter env x = pure x) :
    Seg M A R Y n s₀ c ((exec (.For target iter body orelse pos) env).wrap K H gd lv) fs s := by
  rw [exec_For]
  refine seg_bind_wrap (wpAny_standAt (seg_bind_wrap (wpAny_mono h (fun x s₁ h₁ => ?_) fun _ _ e => e)))
  rw [hs x]
  refine seg_bind_wrap (wpAny_pure (seg_bind_wrap (wpAny_standAt (seg_bind_wrap (wpAny_holding (wpAny_mono h₁ (fun it s₂ h₂ => ?_) fun _ _ e => e))))))
  exact seg_call fun p => h₂ _ p _ fun f => rfl
end
theorem execs_append_wrap {env : Env} {K : Flow → Sem PySem.Fin} {H : Value → Sem PySem.Fin} {gd : Bool → Bool} {lv : List Value → List Value} (rest : List Stmt) : ∀ pre : List Stmt,
    (execs (pre ++ rest) env).wrap K H gd lv = (execs pre env).wrap (fun f => match f with | .next => (execs rest env).wrap K H gd lv | f => K f) H gd lv
  | [] => rfl
  | st :: r => by
    rw [List.cons_append, execs_cons_wrap, execs_cons_wrap, execs_append_wrap rest r]
    exact Sem.wrap_congr _ _ _ (fun f => by cases f <;> rfl) (fun _ => rfl)
theorem filter_at {es : List Addr} {tst : Addr → Bool} {i : Nat} {e : Addr} (he : es[i]? = some e) (ht : tst e = true) :
    (es.drop i).filter tst = e :: (es.drop (i + 1)).filter tst ∧ (es.filter tst)[(es.filter tst).length - 1 - ((es.drop (i + 1)).filter tst).length]? = some e := by
  have hlt : i < es.length := (List.getElem?_eq_some_iff.mp he).1
  have he' : es[i] = e := (List.getElem?_eq_some_iff.mp he).2
  have hd : (es.drop i).filter tst = e :: (es.drop (i + 1)).filter tst := by
    rw [List.drop_eq_getElem_cons hlt, he', List.filter_cons_of_pos ht]
  refine ⟨hd, ?_⟩
  have e1 : es.filter tst = (es.take i).filter tst ++ e :: (es.drop (i + 1)).filter tst := by
    rw [← hd, ← List.filter_append, List.take_append_drop]
  rw [e1, List.length_append, List.length_cons]
  have : ((es.take i).filter tst).length + (((es.drop (i + 1)).filter tst).length + 1) - 1 - ((es.drop (i + 1)).filter tst).length = ((es.take i).filter tst).length := by omega
  rw [this, List.getElem?_append_right (Nat.le_refl _), Nat.sub_self]; rfl
section
variable {prog : Program} {w : World} {A : Around} {h₀ : Heap} {env : Env}
theorem keep_rest {C : Addr} {h h' : Heap} {m m' : Str → Option Value} (F : Fr h₀ C h m) (F' : Fr h₀ C h' m') (N' : News h₀ C h' (ownOf h₀ ((List.range h.objs.size).filter (· ≠ C)) h)) :
    ∀ b o, b ≠ C → h.get? b = some o → h'.get? b = some o := by
  intro b o hb e
  cases q : h₀.get? b with
  | some o' =>
    have : o' = o := by have z := F.keep _ _ q; rw [e] at z; exact (Option.some.inj z).symm
    exact this ▸ F'.keep _ _ q
  | none => exact (N' _ (mem_ownOf (List.mem_filter.mpr ⟨List.mem_range.mpr (Heap.lt_size e), by simpa using hb⟩) q e)).1
/-- what a turn of the loop must do -/
noncomputable def SelTurn (prog : Program) (w : World) (h₀ : Heap) (env : Env) (xe : Str) (pre : List Stmt) (test : Expr) (es : List Addr) (tst : Addr → Bool) : Prop :=
  ∀ (s : Shared) (m : Str → Option Value) (e : Addr) (rest : List (Addr × Obj)), e ∈ es → Fr h₀ env.locals s.heap (fun y => if y = xe then some (.ref e) else m y) → News h₀ env.locals s.heap rest →
    wpAny (model prog w) (AA 8) (execs pre env) (fun f s₁ => Parked (f = .next ∧ wpAny (model prog w) (AA 8) (isTrue test env (eval test env)) (fun b s₂ => Parked (b = tst e ∧ ∃ h' tk' m', s₂ = { s with heap := h', toks := tk' } ∧ m' xe = some (.ref e) ∧ Fr h₀ env.locals h' m' ∧ News h₀ env.locals h' rest)) (fun _ _ => False) s₁))
      (fun _ _ => False) s
theorem seg_selLoop {xe : Str} {pe p1 p2 p3 p4 : Pos} {pre : List Stmt} {test : Expr} {l : Addr} {es : List Addr} {tst : Addr → Bool} {c₁ : Code} {k : Result → Sem PySem.Fin} {p : Pos} {lv : List Value}
    (hh : A.handled = none) (hd : A.depth ≤ 700) (hu : A.units ≤ 7000) (hc1 : c₁.weight ≤ 1) (hc2 : c₁.cUnits ≤ 3) (hl : h₀.IsList l (es.map Value.ref).toArray)
    (hx : env.kindOf xe = some .local) (hk : env.scope.kind = .function) (hp : (env.scope.kind == .class || (env.scope.kind == .module && env.locals != env.globals)) = false) (hco : env.scope.isCoroutine = false) (hdb : (xe == ("__debug__" : Str)) = false)
    (hI0 : interactive env = false)
    (turn : SelTurn prog w h₀ env xe pre test es tst)
    (hend : ∀ s₀ s, NLI h₀ env.locals s₀ s → Seg (model prog w) A (gEnd h₀ env.locals) (gProto h₀ env.locals (es.filter tst)) 0 s₀ c₁ (k (.ok .next)) [] s) :
    ∀ (j i : Nat) (s₀ s : Shared) (m : Str → Option Value) (I : Addr), es.length - i = j → i ≤ es.length → Fr h₀ env.locals s.heap m → h₀.get? I = none → I ≠ env.locals → s.heap.IsListIter I l i → NLI h₀ env.locals s₀ s →
      Seg (model prog w) A (gEnd h₀ env.locals) (gProto h₀ env.locals (es.filter tst)) ((es.drop i).filter tst).length s₀
        (.forLoop (.Name xe pe) (.ref I) (pre ++ [.If test [.Expr (.Yield (some (.Name xe p1)) p2) p3] [] p4]) [] env)
        ((model prog w).den (.forLoop (.Name xe pe) (.ref I) (pre ++ [.If test [.Expr (.Yield (some (.Name xe p1)) p2) p3] [] p4]) [] env)) [.ret k none false lv c₁ p []] s := by
  intro j
  have hdep : ∀ b, (A.over (.forLoop (.Name xe pe) (.ref b) (pre ++ [.If test [.Expr (.Yield (some (.Name xe p1)) p2) p3] [] p4]) [] env) [.ret k none false lv c₁ p []]).depth ≤ 800 := fun b => by
    show A.depth + (c₁.weight + 0) + 0 ≤ 800
    omega
  have hun : ∀ b, (A.over (.forLoop (.Name xe pe) (.ref b) (pre ++ [.If test [.Expr (.Yield (some (.Name xe p1)) p2) p3] [] p4]) [] env) [.ret k none false lv c₁ p []]).units ≤ 8000 := fun b => by
    show A.units + (c₁.cUnits + 0) + 0 ≤ 8000
    omega
  have hha : ∀ b, (A.over (.forLoop (.Name xe pe) (.ref b) (pre ++ [.If test [.Expr (.Yield (some (.Name xe p1)) p2) p3] [] p4]) [] env) [.ret k none false lv c₁ p []]).handled = none := fun b => hh
  induction j with
  | zero =>
    intro i s₀ s m I hj hi F hIn hIC hit hsince
    have hin : i = es.length := by omega
    subst hin
    have hls : s.heap.IsList l (es.map Value.ref).toArray := let ⟨o, ho, r⟩ := hl; ⟨o, F.keep _ _ ho, r⟩
    show Seg _ A _ _ _ s₀ _ ((forTurn (.Name xe pe) (.ref I) _ [] env).onRaise _) _ s
    rw [Sem.onRaise_eq_wrap]
    unfold forTurn
    refine seg_bind_wrap (wpAny_standAt ?_)
    refine seg_bind_wrap (wpAny_onRaise (wpAny_pyNext_list_end (hha I) hit hls (by simp) fun h' hx => ?_))
    rw [List.drop_length]
    refine seg_again rfl ?_
    exact seg_leaf (.ok .next) (hend s₀ _ (hsince.step fun b o hb hq e => hx b o (fun z => by
      rcases hq with q | q
      · rw [z, hIn] at q; cases q
      · refine by_G fun G_ back_ => ?_
        obtain ⟨oI, hoI, hoc, hod⟩ := hit
        refine back_ ?_
        clear back_ G_
        rw [z, hoI] at e; cases e; exact q ⟨hoc, _, hod⟩) e))
  | succ j ih =>
    intro i s₀ s m I hj hi F hIn hIC hit hsince
    have hlt : i < es.length := by omega
    obtain ⟨e, he⟩ : ∃ e, es[i]? = some e := ⟨es[i], by simp [hlt]⟩
    have hls : s.heap.IsList l (es.map Value.ref).toArray := let ⟨o, ho, r⟩ := hl; ⟨o, F.keep _ _ ho, r⟩
    show Seg _ A _ _ _ s₀ _ ((forTurn (.Name xe pe) (.ref I) _ [] env).onRaise _) _ s
    rw [Sem.onRaise_eq_wrap]
    unfold forTurn
    refine seg_bind_wrap (wpAny_standAt ?_)
    refine seg_bind_wrap (wpAny_onRaise (wpAny_pyNext_list_item hit hls (x := .ref e) (by simp [he]) fun h₁ hit₁ hs₁ => ?_))
    replace hs₁ : Heap.SameBut I s.heap h₁ := hs₁
    refine seg_bind_wrap (wpAny_of_eq (rfl : letOwnedTupleGo (.Name xe pe) (.ref I) (.ref e) = pure ()) ?_)
    have F₁ : Fr h₀ env.locals h₁ m := ⟨F.ns.at' fun o q => hs₁.extBut _ o (Ne.symm hIC) q, fun b o q => hs₁.extBut b o (fun z => by rw [z, hIn] at q; cases q) (F.keep b o q), F.above⟩
    refine seg_bind_wrap (wpAny_assign_Name (wpAny_storeName_local hx F₁.ns (fun h₂ hn₂ hs₂ => ?_) hp))
    replace hs₂ : Heap.SameBut env.locals h₁ h₂ := hs₂
    have F₂ := F₁.set hn₂ hs₂
    refine by_G fun G_ back_ => ?_
    obtain ⟨oI, hoI, hoc, hod⟩ := hit₁
    refine back_ ?_
    clear back_ G_
    have hoI₂ := hs₂.extBut _ _ hIC hoI
    rw [Sem.bind_eq_wrap', Sem.wrap_wrap, execs_append_wrap]
    have hC : env.locals ∉ (List.range h₂.objs.size).filter (· ≠ env.locals) := fun q => by simpa using (List.mem_filter.mp q).2
    refine seg_wrap (wpAny_mono (wpAny_le (turn { s with heap := h₂, toks := s.toks + 1 } m e _ (List.mem_of_getElem? he) F₂ (news_ownOf hC)) (hha I) (hdep I) rfl rfl (hun I)) (fun f s₁ hf => ?_) fun _ _ q => q.elim)
    refine by_G fun G_ back_ => ?_
    obtain ⟨rfl, hf⟩ := hf
    refine back_ ?_
    clear back_ G_
    refine seg_execs_cons (seg_If (wpAny_mono (wpAny_le hf (hha I) (hdep I) rfl rfl (hun I)) (fun b s₂ hb => ?_) fun _ _ q => q.elim))
    refine by_G fun G_ back_ => ?_
    obtain ⟨rfl, h₃, tk₃, m₃, rfl, hm₃, F₃, N₃⟩ := hb
    refine back_ ?_
    clear back_ G_
    have kp : ∀ b o, b ≠ env.locals → h₂.get? b = some o → h₃.get? b = some o := keep_rest F₂ F₃ N₃
    have hoI₃ := kp _ _ hIC hoI₂
    have since₃ : NLI h₀ env.locals s₀ { s with heap := h₃, toks := tk₃ } := hsince.step fun b o hb hq q => kp b o hb (hs₂.extBut b o hb (hs₁.extBut b o (fun z => by
      rcases hq with r | r
      · rw [z, hIn] at r; cases r
      · refine by_G fun G_ back_ => ?_
        obtain ⟨oI', hoI', hoc', hod'⟩ := hit
        refine back_ ?_
        clear back_ G_
        rw [z, hoI'] at q; cases q; exact r ⟨hoc', _, hod'⟩) q))
    cases ht : tst e with
    | false =>
      rw [if_neg (by decide)]
      have hn : (es.drop i).filter tst = (es.drop (i + 1)).filter tst := by
        rw [List.drop_eq_getElem_cons hlt, (List.getElem?_eq_some_iff.mp he).2, List.filter_cons_of_neg (by simp [ht])]
      rw [hn]
      exact seg_again rfl (ih (i + 1) s₀ _ m₃ I (by omega) hlt F₃ hIn hIC ⟨oI, hoI₃, hoc, hod⟩ since₃)
    | true =>
      rw [if_pos rfl]
      refine by_G fun G_ back_ => ?_
      obtain ⟨hn, hidx⟩ := filter_at he ht
      refine back_ ?_
      clear back_ G_
      rw [hn, List.length_cons]
      refine seg_execs_cons (seg_Expr_Yield rfl rfl rfl (wpAny_Name (wpAny_loadName_local hk hx F₃.ns hm₃ ?_) hdb) hco hI0)
      intro kap hkap
      refine ⟨⟨e, hidx, rfl⟩, since₃, fun s'' hag => hkap .none s'' ?_⟩
      have F₄ : Fr h₀ env.locals s''.heap m₃ := ⟨F₃.ns.at' fun o q => hag _ o (.inr (.inl rfl)) q, fun b o q => hag b o (.inl q) (F₃.keep b o q), F₃.above⟩
      exact seg_again rfl (ih (i + 1) s'' s'' m₃ I (by omega) hlt F₄ hIn hIC ⟨oI, hag _ _ (.inr (.inr ⟨hoc, _, hod⟩)) hoI₃, hoc, hod⟩ (NLI.refl _ _ _))
end
end
-- G2
section
/-- a generator that has yet to yield ys from the j-th on -/
noncomputable def GenY (w : World) (A : Around) (h₀ : Heap) (C a : Addr) (g : Nat) (ys : List Addr) (j : Nat) (s : Shared) : Prop :=
  s.heap.IsGen a g ∧ (∀ b o, h₀.get? b = some o → s.heap.get? b = some o) ∧ ∃ gs, s.gens[g]? = some gs ∧ ∀ s'' : Shared, Agree h₀ C s s'' → gs.Goes (model P w) A.in1 (gEnd h₀ C) (gProto h₀ C ys) (ys.length - j) (.send .none) s''
noncomputable def NLIg (h₀ : Heap) (C : Addr) (g : Nat) (s s' : Shared) : Prop := ∃ h tk gs, s' = { s with heap := h, toks := tk, gens := gs } ∧ GenOnly g s.gens gs ∧ ∀ b o, b ≠ C → (h₀.get? b = some o ∨ ¬ LI o) → s.heap.get? b = some o → h.get? b = some o
section
variable {w : World} {A : Around} {E : Value → Shared → Prop} {s : Shared} {h₀ : Heap} {C a : Addr} {g : Nat} {ys : List Addr} {j : Nat}
theorem GenY.keep (x : GenY w A h₀ C a g ys j s) {s' : Shared} (hg : s'.gens[g]? = s.gens[g]?) (k : ∀ b o, (h₀.get? b = some o ∨ b = C ∨ b = a ∨ LI o) → s.heap.get? b = some o → s'.heap.get? b = some o) : GenY w A h₀ C a g ys j s' := by
  obtain ⟨⟨o, nm, qn, ho, r⟩, hk, gs, hgs, hgo⟩ := x
  refine ⟨⟨o, nm, qn, k _ _ (.inr (.inr (.inl rfl))) ho, r⟩, fun b o q => k b o (.inl q) (hk b o q), gs, hg.trans hgs, fun s'' hag => hgo s'' fun b o hb q => ?_⟩
  exact hag b o hb (k b o (hb.elim .inl fun q => q.elim (fun q => .inr (.inl q)) fun q => .inr (.inr (.inr q))) q)
theorem gen_item {Q : Option Value → Shared → Prop} (hh : A.handled = none) (hroom : A.depth < recursionLimit) (hlim : h₀.NoLimit) (haC : a ≠ C) (hC : h₀.get? C = none) {e : Addr} (hj : ys[j]? = some e) (x : GenY w A h₀ C a g ys j s)
    (hQ : ∀ s', NLIg h₀ C g s s' → GenY w A h₀ C a g ys (j + 1) s' → Q (some (.ref e)) s') : wpAny (model P w) A (pyNext (.ref a)) Q E s := by
  obtain ⟨hg, hk, gs, hgs, hgo⟩ := x
  have hjl : j < ys.length := (List.getElem?_eq_some_iff.mp hj).1
  obtain ⟨m, hm⟩ : ∃ m, ys.length - j = m + 1 := ⟨ys.length - j - 1, by omega⟩
  rw [hm] at hgo
  refine wpAny_pyNext_gen (P := fun n s₀ s₁ => n = 0 ∧ NLI h₀ C s₀ s₁) hh (hlim.keeps hk) hroom hg hgs (hgo _ fun _ _ _ e => e) (fun v s₁ gs' hv => ?_) (fun s₁ hp h' hk' => ?_)
  · obtain ⟨⟨e', he', rfl⟩, ⟨h₁, tk₁, rfl, k₁⟩, hkap⟩ := hv
    have hidx : ys.length - 1 - (m + 1 - 1) = j := by omega
    rw [hidx, hj] at he'
    cases he'
    have kC : ∀ b o, h₀.get? b = some o → b ≠ C := fun b o q z => by rw [z, hC] at q; cases q
    refine hQ _ ⟨h₁, tk₁, _, rfl, (GenOnly.setGen s g .running).trans (GenOnly.setGen _ g gs'), fun b o hb hq q => k₁ b o hb hq q⟩ ⟨?_, fun b o q => k₁ b o (kC b o q) (.inl q) (hk b o q), gs', setGen_self (gs := .running) (setGen_self hgs), fun s'' hag => ?_⟩
    · obtain ⟨o, nm, qn, ho, hc, r⟩ := hg
      exact ⟨o, nm, qn, k₁ _ _ haC (.inr fun z => absurd (hc.symm.trans z.1) (by decide)) ho, hc, r⟩
    · have e : ys.length - (j + 1) = m := by omega
      rw [e]
      exact hkap s'' hag
  · exact absurd hp.1 (Nat.succ_ne_zero m)
theorem gen_done {Q : Option Value → Shared → Prop} (hh : A.handled = none) (hroom : A.depth < recursionLimit) (hlim : h₀.NoLimit) (x : GenY w A h₀ C a g ys ys.length s)
    (hQ : ∀ s', NLIg h₀ C g s s' → s'.gens[g]? = some .finished → Q none s') : wpAny (model P w) A (pyNext (.ref a)) Q E s := by
  obtain ⟨hg, hk, gs, hgs, hgo⟩ := x
  rw [Nat.sub_self] at hgo
  refine wpAny_pyNext_gen (P := fun n s₀ s₁ => n = 0 ∧ NLI h₀ C s₀ s₁) hh (hlim.keeps hk) hroom hg hgs (hgo _ fun _ _ _ e => e) (fun v s₁ gs' hv => ?_) (fun s₁ hp h' hk' => ?_)
  · obtain ⟨_, _, hkap⟩ := hv
    exact False.elim (hkap s₁ fun _ _ _ e => e)
  · obtain ⟨_, h₁, tk₁, rfl, k₁⟩ := hp
    exact hQ _ ⟨h', tk₁, _, rfl, (GenOnly.setGen s g .running).trans (GenOnly.setGen _ g .finished), fun b o hb hq q => hk' b o (k₁ b o hb hq q)⟩ (setGen_self (gs := .running) (setGen_self hgs))
end
noncomputable def okTag (v : Value) : Prop := (∃ x t, v = .str x t ∧ x.length ≤ 20 ∧ x.length ≠ 0) ∨ ∃ i t, v = .int i t
/-- a function object that is called with a list of elements and filters it by their tags -/
noncomputable def SieveOK (w : World) (mg mb : Str → Option Value) (sp : List (Addr × Obj)) (f : Addr) (okT : Value → Prop) (tst : Value → Bool) : Prop :=
  (∀ h, Supp h sp → FnAt f h) ∧ ∀ (s : Shared) (A : Around) (l : Addr) (es : List Addr) (tg : Addr → Value) (Q E : Value → Shared → Prop),
    Supp s.heap sp → Bs w mg mb s.heap → A.handled = none → A.depth ≤ 600 → A.units ≤ 6000 →
    s.heap.IsList l (es.map Value.ref).toArray → (∀ e ∈ es, ∃ p, Elem s.heap e p (tg e)) → (∀ e ∈ es, okT (tg e)) →
    (∀ C a h' tk gs, s.heap.get? C = none → s.heap.get? a = none → a ≠ C → (∀ b o, s.heap.get? b = some o → h'.get? b = some o) → C < h'.objs.size →
      (∀ A' : Around, A'.handled = none → A'.depth ≤ 600 → A'.units ≤ 6000 → GenY w A' s.heap C a s.gens.size (es.filter fun e => tst (tg e)) 0 { s with heap := h', toks := tk, gens := s.gens.push gs }) →
      Q (.ref a) { s with heap := h', toks := tk, gens := s.gens.push gs }) →
    wpAny (model P w) A (call (.ref f) [.none, .ref l]) Q E s
section
variable {w : World} {s : Shared} {A : Around} {Q E : Value → Shared → Prop}
theorem gen_call {name qual : Str} {params : Arguments} {scope : Scope} {clos : List (Str × Addr)} {dV kV doc pm ctv : Value} {an : Option Addr} {c' f l : Addr} {xc xr xe : Str} {pe pr p1 p2 p3 p4 p5 : Pos} {pre : List Stmt} {test : Expr} {es : List Addr} {tst : Addr → Bool}
    (hf : s.heap.get? f = some (fnO none (fnX name qual params [.For (.Name xe pe) (.Name xr pr) (pre ++ [.If test [.Expr (.Yield (some (.Name xe p1)) p2) p3] [] p4]) [] p5] scope clos dV kV doc pm an (.ref c') ctv)))
    (hlim : s.heap.NoLimit) (hcd : s.heap.CodeRec (.ref c') qual) (hroom : A.depth < recursionLimit)
    (hco : scope.isCoroutine = false) (hgen : scope.isGenerator = true) (hk : scope.kind = .function) (hcell : ∀ x ∈ scope.names, x.2 ≠ .cell)
    (hbind : BindsTo s (fnX name qual params [.For (.Name xe pe) (.Name xr pr) (pre ++ [.If test [.Expr (.Yield (some (.Name xe p1)) p2) p3] [] p4]) [] p5] scope clos dV kV doc pm an (.ref c') ctv) ⟨[.none, .ref l], []⟩ [(xc, .none), (xr, .ref l)])
    (hloc : ∀ y ∈ [(xc, Value.none), (xr, Value.ref l)], scope.names.lookup y.1 = some .local) (hxe : scope.names.lookup xe = some .local) (hxr : scope.names.lookup xr = some .local) (hne : xr ≠ xc)
    (hdb : (xe == ("__debug__" : Str)) = false) (hdr : (xr == ("__debug__" : Str)) = false)
    (hl : s.heap.IsList l (es.map Value.ref).toArray)
    (turn : SelTurn P w s.heap (envX qual scope s.heap.objs.size f (.ref c') clos) xe pre test es tst)
    (h : ∀ C a h' tk gs, s.heap.get? C = none → s.heap.get? a = none → a ≠ C → (∀ b o, s.heap.get? b = some o → h'.get? b = some o) → C < h'.objs.size →
      (∀ A' : Around, A'.handled = none → A'.depth ≤ 600 → A'.units ≤ 6000 → GenY w A' s.heap C a s.gens.size (es.filter tst) 0 { s with heap := h', toks := tk, gens := s.gens.push gs }) →
      Q (.ref a) { s with heap := h', toks := tk, gens := s.gens.push gs }) :
    wpAny (model P w) A (call (.ref f) [.none, .ref l]) Q E s := by
  refine wpAny_call (codeAny_call_generator (fd := fnX name qual params _ scope clos dV kV doc pm an (.ref c') ctv) hroom hf rfl hco hgen rfl hcd (hbind _ _ _ _ ?_))
  refine wpAny_newFunctionEnv hcell hloc (fun h₁ hns hsb => ⟨hlim.fresh _ hsb, ?_⟩) hk
  have k₁ : ∀ b o, s.heap.get? b = some o → h₁.get? b = some o := fun b o e => hsb.extBut b o (Nat.ne_of_lt (Heap.lt_size e)) (Heap.get?_push_of_some _ e)
  have hsz : h₁.objs.size = s.heap.objs.size + 1 := by rw [hsb.1, Heap.size_push]
  have fresh : ∀ b, s.heap.objs.size ≤ b → s.heap.get? b = none := fun b hb => Heap.get?_none_of_le hb
  refine h s.heap.objs.size h₁.objs.size _ _ _ (fresh _ (Nat.le_refl _)) (fresh _ (by rw [hsz]; exact Nat.le_succ _)) (by rw [hsz]; exact Nat.succ_ne_self _) (fun b o e => Heap.get?_push_of_some _ (k₁ b o e)) (by rw [Heap.size_push, hsz]; exact Nat.lt_succ_of_lt (Nat.lt_succ_self _)) fun A' hh hd hu => ?_
  refine ⟨⟨_, _, _, Heap.get?_push_size _ rfl, rfl, rfl, rfl⟩, fun b o e => Heap.get?_push_of_some _ (k₁ b o e), _, Array.getElem?_push_size .., fun s'' hag => ⟨rfl, ?_⟩⟩
  rw [Nat.sub_zero]
  have F : Fr s.heap s.heap.objs.size s''.heap (fun x => [(xc, Value.none), (xr, Value.ref l)].reverse.lookup x) :=
    ⟨(hns.push _).at' fun o e => hag _ o (.inr (.inl rfl)) e, fun b o e => hag b o (.inl e) (Heap.get?_push_of_some _ (k₁ b o e)), Nat.le_refl _⟩
  refine seg_func (seg_execs_cons (seg_For ?_ fun _ => rfl))
  refine wpAny_Name (wpAny_loadName_local hk hxr F.ns (by show List.lookup xr [(xr, Value.ref l), (xc, Value.none)] = some (Value.ref l); simp) ?_) hdr
  have hls : s''.heap.IsList l (es.map Value.ref).toArray := let ⟨o, ho, r⟩ := hl; ⟨o, F.keep _ _ ho, r⟩
  refine wpAny_pyIter_list hls ?_
  intro k p lv hk'
  have hI : s.heap.get? s''.heap.objs.size = none := next_is_new F
  have hIC : s''.heap.objs.size ≠ s.heap.objs.size := Nat.ne_of_gt F.ns.lt
  exact seg_selLoop (env := envX qual scope s.heap.objs.size f (.ref c') clos) (A := A'.in1) hh (Nat.le_trans hd (by decide)) (Nat.le_trans (Nat.succ_le_succ hu) (by decide)) (Nat.le_of_ble_eq_true rfl) (Nat.le_of_ble_eq_true rfl) hl hxe hk (by show (scope.kind == _ || (scope.kind == _ && _)) = false; rw [hk]; rfl) hco hdb
    (by show (scope.kind == _ && _) = false; rw [hk]; rfl) turn
    (fun s₀ s₁ hn => by rw [hk']; exact seg_end (.ok (.ret .none)) ⟨rfl, rfl, hn⟩) es.length 0 s'' _ _ s''.heap.objs.size (Nat.sub_zero _) (Nat.zero_le _) (F.push _) hI hIC ⟨_, Heap.get?_push_size _ rfl, rfl, rfl⟩
    ⟨_, _, rfl, fun b o _ _ e => Heap.get?_push_of_some _ e⟩
end
end
-- C7
section
theorem enterGC {prog : Program} {w : World} {A : Around} {s : Shared} {g : Heap} {K : Frag} {R : Result → Shared → Prop} {name qual : Str} {params : Arguments} {body : List Stmt} {scope : Scope} {dV kV doc pm cdv ct oc : Value}
    {an od : Option Addr} {osl : Array (Option Value)} {f : Addr} {args : Args} {binds : List (Str × Value)}
    (X : K.In g) (hlim : g.NoLimit) (kg : ∀ b o, g.get? b = some o → s.heap.get? b = some o) (hsz : g.objs.size = s.heap.objs.size)
    (ho : K.lookup f = some ⟨oc, od, .func (fnOf name qual params body scope dV kV doc pm an cdv ct), osl⟩) (hcd : codeIn K cdv qual = true) (hroom : A.depth < recursionLimit)
    (hbind : BindsTo s (fnOf name qual params body scope dV kV doc pm an cdv ct) args binds)
    (hkind : (binds.all fun y => scope.names.lookup y.1 == some .local || scope.names.lookup y.1 == some .cell) = true)
    (hnd : ((cellsFrom 0 scope.names []).map (·.1)).Nodup)
    (h : ∀ h₁ tk cells, Fr g s.heap.objs.size h₁ (bindL (envOfC qual scope s.heap.objs.size f cdv).kindOf binds fun _ => none) → News g s.heap.objs.size h₁ cells →
      CellsAre (bindC (envOfC qual scope s.heap.objs.size f cdv).kindOf binds fun _ => none) (cellsFrom (s.heap.objs.size + 1) scope.names []) cells →
      (∀ b o, s.heap.get? b = some o → h₁.get? b = some o) →
      wpAny (model prog w) (A.deeper (envOfC qual scope s.heap.objs.size f cdv)) (execs body (envOfC qual scope s.heap.objs.size f cdv))
        (fun fl s' => R (.ok (.ret (match fl with | .ret v => v | _ => .none))) s') (fun _ _ => False) { s with heap := h₁, toks := tk })
    (hco : scope.isCoroutine = false) (hgen : scope.isGenerator = false) (hk : scope.kind = .function) : codeAny (model prog w) A (.call (.ref f) args) R s := by
  refine codeAny_call_function (fd := fnOf name qual params body scope dV kV doc pm an cdv ct) hroom (kg _ _ (X _ _ ho)) rfl hco hgen rfl (codeRec_of (X.keeps kg) hcd) (hbind _ _ _ _ ?_)
  refine wpAny_newFunctionEnv_cells hk (kindsX hkind _) fun env' he s' x => ?_
  subst he
  refine ⟨(hlim.keeps kg).keeps x.toInCall.keep, codeAny_func ?_⟩
  obtain ⟨h₁, tk, rfl, _⟩ := x.done
  have hk₁ := x.toInCall.keep
  obtain ⟨cells, NC, Y⟩ := Cl.news (h₀ := s.heap) (Nat.le_refl _) fun n c hm => ⟨x.cell n c (lookup_of_mem_nodup (cellsFrom_names scope.names 0 (s.heap.objs.size + 1) [] [] rfl ▸ hnd) hm), x.above n c hm⟩
  refine wpAny_mono (h h₁ tk cells ⟨x.toInCall.ns, fun b o e => hk₁ b o (kg b o e), Nat.le_of_eq hsz⟩ (fun p hp => ⟨(NC p hp).1, (NC p hp).2.1, ?_⟩) Y hk₁) (fun _ _ q => q) (fun _ _ q => q.elim)
  cases q : g.get? p.1 with
  | none => rfl
  | some o => have := kg _ _ q; rw [(NC p hp).2.2] at this; cases this
theorem lines_C7_1 : True := by
  k_with_none
  k_with "mine in" => ((case k6 => k_is); (case k7 => k_is); (case k8 => decide); (case k9 => exact BindsTo.of_eq rfl); (case kB => rfl); (case kD => decide); (case c2 => exact rfl); (case c3 => exact rfl); (case c4 => exact rfl))
  trivial
theorem TabRec.among' {h : Heap} {q : Str} (pos : Pos) (l : List Value) (t : TabRec h q l) : codeAmong pos l = none ∨ ∃ c', codeAmong pos l = some (.ref c') ∧ c' ≠ 98 ∧ c' ≠ 16 ∧ h.CodeRec (.ref c') q := by
  fun_induction TabRec h q l with
  | case1 => exact .inl rfl
  | case2 a t b u x rest ih =>
    obtain ⟨⟨c', rfl, n1, n2, hc⟩, hr⟩ := t
    unfold codeAmong
    split
    · exact .inr ⟨c', rfl, n1, n2, hc⟩
    · exact ih hr
  | case3 => exact t.elim
section
variable {M : Model} {A : Around} {E : Value → Shared → Prop} {s : Shared} {h₀ : Heap} {L a c P' : Addr} {m mg mb : Str → Option Value} {cn : Str} {cs : Scope} {ccd : Value} {cl : List (Str × Addr)} {news : List (Addr × Obj)} {g : Obj → List (Addr × Obj)}
  {p : Program} {loose : List Str} {mean : ExcName → Option Value} {name qual : Str} {params : Arguments} {body : List Stmt} {scope : Scope} {ps : Array Value} {pos : Pos} {firstLine : Nat} {clos : List (Str × Addr)}
theorem nest_any {Q : Value → Shared → Prop} (F : Fr h₀ L s.heap m) (N : News h₀ L s.heap news) (T : Top p loose mean mg mb h₀) (C : CodeHd h₀ c 16) (hcd : ccd = .ref c) (U : UpdF 16 (tabObj ps) news g) (hrec : TabRec h₀ qual ps.toList) (h98 : h₀.get? 98 ≠ none)
    (hcl : closureFor scope (envX cn cs L a ccd cl) = pure clos)
    (h : ∀ f c' ctv doc h' tk ps', Fr h₀ L h' m →
      News h₀ L h' ((f, fnMade name qual params body scope clos doc ((mg "__name__").getD .none) c' ctv) :: g (tabObj ps')) →
      TabRec h' qual ps'.toList → h'.CodeRec (.ref c') qual → c' ≠ 98 → c' ≠ 16 → (∀ q ∈ news, q.1 < f) → Q (.ref f) { s with heap := h', toks := tk }) :
    wpAny M A (makeFunction name qual params (.stmts body) scope (envX cn cs L a ccd cl) [] [] [] pos firstLine) Q E s := by
  rcases TabRec.among' pos ps.toList hrec with hno | ⟨c', hyes, n1, n2, hc'⟩
  · refine nest_K F N T C hcd U hrec.ok hno hcl fun f c' oc vs t ctv doc h' tk F' N' hd hv l1 l2 => ?_
    have hcN := N' (c', oc) (.tail _ (.head _))
    have hrc : h'.CodeRec (.ref c') qual := ⟨c', oc, vs, t, rfl, hcN.1, hd, hv⟩
    have n98 : c' ≠ 98 := fun q => h98 (q ▸ hcN.2.2)
    have hfN := N' _ (.head _)
    have n16 : c' ≠ 16 := fun q => by
      subst q
      obtain ⟨own, rest, rfl, _⟩ := U.split
      exact absurd (l1 _ (List.mem_append_right _ (.head _))) (Nat.lt_irrefl _)
    refine h f c' ctv doc h' tk (ps ++ #[rawInt pos.line, rawInt pos.col, .ref c']) F' (fun q hq => ?_) ?_ hrc n98 n16 fun q hq => Nat.lt_trans (l1 q hq) l2
    · rcases List.mem_cons.mp hq with rfl | hq
      · exact N' _ (.head _)
      · exact N' _ (.tail _ (.tail _ hq))
    · rw [Array.toList_append]
      exact TabRec.snoc _ (hrec.mono _ (codeRec_but fun b o _ _ e => F'.keep b o e)) n98 n16 hrc
  · obtain ⟨own, rest, rfl, hgr, h1, h2⟩ := U.split
    refine nestHit_K F N T C hcd (List.mem_append_right _ (.head _)) hrec.ok hyes hcl fun f ctv doc h' tk F' N' l1 => ?_
    exact h f c' ctv doc h' tk ps F' (by rw [hgr]; exact N') (hrec.mono _ (codeRec_but fun b o _ _ e => F'.keep b o e)) (codeRec_but (fun b o _ _ e => F'.keep b o e) _ n1 n2 hc') n1 n2 l1
theorem nest_def {Q : Flow → Shared → Prop} (F : Fr h₀ L s.heap m) (N : News h₀ L s.heap news) (T : Top p loose mean mg mb h₀) (C : CodeHd h₀ c 16) (hcd : ccd = .ref c) (U : UpdF 16 (tabObj ps) news g) (hrec : TabRec h₀ (qualnameIn (envX cn cs L a ccd cl) name name) ps.toList) (h98 : h₀.get? 98 ≠ none)
    (hcl : closureFor scope (envX cn cs L a ccd cl) = pure clos) (hd0 : params.defaults = []) (hk0 : params.kw_defaults = []) (ha : annTrees params none (envX cn cs L a ccd cl) = [])
    (hk : cs.kind = .function) (hx : (envX cn cs L a ccd cl).kindOf name = some .local)
    (h : ∀ f c' ctv doc h' tk ps', Fr h₀ L h' (fun y => if y = name then some (.ref f) else m y) →
      News h₀ L h' ((f, fnMade name (qualnameIn (envX cn cs L a ccd cl) name name) params body scope clos doc ((mg "__name__").getD .none) c' ctv) :: g (tabObj ps')) →
      TabRec h' (qualnameIn (envX cn cs L a ccd cl) name name) ps'.toList → h'.CodeRec (.ref c') (qualnameIn (envX cn cs L a ccd cl) name name) → c' ≠ 98 → c' ≠ 16 → (∀ q ∈ news, q.1 < f) → Q .next { s with heap := h', toks := tk }) :
    wpAny M A (exec (.FunctionDef name params body [] none [] scope none name pos) (envX cn cs L a ccd cl)) Q E s := by
  refine nestDef_K hd0 hk0 ha (nest_any F N T C hcd U hrec h98 hcl fun f c' ctv doc h' tk ps' F' N' hr hc n1 n2 hl => ?_)
  refine wpAny_storeName_local hx F'.ns (fun h₂ hn hs => ?_) (by show (cs.kind == .class || (cs.kind == .module && L != mainGlobals)) = false; rw [hk]; rfl)
  have kc : ∀ c₁, h'.CodeRec (.ref c₁) (qualnameIn (envX cn cs L a ccd cl) name name) → h₂.CodeRec (.ref c₁) (qualnameIn (envX cn cs L a ccd cl) name name) := by
    rintro c₁ ⟨c₀, o, vs, t, e, ho, hd, r⟩
    cases e
    refine ⟨c₁, o, vs, t, rfl, hs.extBut _ _ (fun q => ?_) ho, hd, r⟩
    obtain ⟨o', es, ep, e', hd', _⟩ := F'.ns
    rw [q] at ho
    rw [show h'.get? L = some o from ho] at e'
    cases e'
    rw [hd] at hd'; cases hd'
  exact h f c' ctv doc h₂ _ ps' (F'.set hn hs) (N'.set hs) (hr.mono _ fun c₁ _ _ q => kc c₁ q) (kc _ hc) n1 n2 hl
end
theorem lines_C7_2 : True := by
  k_with "exec FunctionDef" => (k_here; k_dflt (refine' nest_def ?zqF ?zqN ?zqT ?zqC ?zqcd ?zqU ?zqt ?zqn ?zqcl ?zqd0 ?zqk0 ?zqa0 ?zqkk ?zqkx ?_; (case zqF => k_asm); (case zqN => k_asm); (case zqT => k_asm); (case zqcd => exact rfl); (case zqC => assumption); (case zqU => k_updF); (case zqt => assumption); (case zqn => assumption); (case zqcl => exact rfl); (case zqd0 => exact rfl); (case zqk0 => exact rfl); (case zqa0 => exact rfl); (case zqkk => exact rfl); (case zqkx => exact rfl)); intro f' c' ct' dc' h' tk' ps' F' N' r' c1' c2' c3' l1; (try dsimp only at N'); (try k_lt l1))
  k_with "ite" => first | rw [if_pos (by assumption)] | rw [if_neg (by assumption)]
  k_with "exec Raise" => refine park ?_
  trivial
theorem boot_slice : bootBuiltins (Str.ofString "slice") = some (.type "slice") := by decide +kernel
theorem lines_C7_3 : True := by
  k_with "eval Name" => (k_here; (with_reducible show wpAny _ _ (eval (Expr.Name (Str.ofString "slice") _) _) _ _ _); k_dflt (refine' nameX_B ?zqF ?zqX ?zqT ?zqe boot_slice ?zqn ?_ ?zqa ?zqb; (case zqF => k_asm); (case zqX => k_asm); (case zqT => k_asm); (case zqe => k_is); (case zqn => decide); (case zqa => rfl); (case zqb => rfl)))
  k_with "call type:slice" => (k_here; k_dflt (refine' use_slice (c_slice _ _) ?zqF ?zqN rfl (Nat.le_of_ble_eq_true rfl) (Nat.le_of_ble_eq_true rfl) ?_; (case zqF => k_asm); (case zqN => k_asm)); intro x' h' tk' F' N' l1; (try simp only [AllNe, and_true] at l1); (try k_sweep))
  trivial
theorem sieve_of {w : World} {mg mb : Str → Option Value} {h₀ h : Heap} {L f c' : Addr} {news : List (Addr × Obj)} {name qual : Str} {params : Arguments} {body : List Stmt} {scope : Scope} {clos : List (Str × Addr)} {doc pm ctv : Value} {xc xr xe : Str} {pe pr p1 p2 p3 p4 p5 : Pos} {pre : List Stmt} {test : Expr} {tst : Value → Bool}
    (N : News h₀ L h ((f, fnMade name qual params body scope clos doc pm c' ctv) :: news)) (h98 : h₀.get? 98 ≠ none) (f2 : @LT.lt Nat _ 16 f) (hcd : h.CodeRec (.ref c') qual) (n1 : c' ≠ 98) (n2 : c' ≠ 16)
    (hb : body = [.For (.Name xe pe) (.Name xr pr) (pre ++ [.If test [.Expr (.Yield (some (.Name xe p1)) p2) p3] [] p4]) [] p5])
    (hco : scope.isCoroutine = false) (hgen : scope.isGenerator = true) (hk : scope.kind = .function) (hcell : ∀ x ∈ scope.names, x.2 ≠ .cell)
    (hbind : ∀ s l, BindsTo s (fnX name qual params body scope clos .none .none doc pm none (.ref c') ctv) ⟨[.none, .ref l], []⟩ [(xc, .none), (xr, .ref l)])
    (hxc : scope.names.lookup xc = some .local) (hxe : scope.names.lookup xe = some .local) (hxr : scope.names.lookup xr = some .local) (hne : xr ≠ xc)
    (hdb : (xe == ("__debug__" : Str)) = false) (hdr : (xr == ("__debug__" : Str)) = false)
    (turn : ∀ (h₂ : Heap) (L₂ : Addr) (es : List Addr) (tg : Addr → Value), (∀ p ∈ news, p.1 ≠ 16 → h₂.get? p.1 = some p.2) → Bs w mg mb h₂ → (∀ e ∈ es, ∃ p, Elem h₂ e p (tg e)) → (∀ e ∈ es, okTag (tg e)) → SelTurn P w h₂ (envX qual scope L₂ f (.ref c') clos) xe pre test es (fun e => tst (tg e))) :
    ∃ sp, SieveOK w mg mb sp f okTag tst ∧ Supp h sp ∧ ∀ q ∈ sp, FreshO h₀ q := by
  have f1 : f ≠ 98 := fun q => h98 (q ▸ (N _ (.head _)).2.2)
  have f2' : f ≠ 16 := Nat.ne_of_gt f2
  obtain ⟨c₀, oc, vs, tc, ec, hoc, hdc, hvc⟩ := hcd
  cases ec
  refine ⟨(c', oc) :: (f, fnMade name qual params body scope clos doc pm c' ctv) :: news.filter (fun p => decide (p.1 ≠ 16)), ?_, fun q hq => ?_, fun q hq => ?_⟩
  · subst hb
    refine ⟨fun h hs => ⟨_, _, _, _, hs _ (.tail _ (.head _))⟩, ?_⟩
    intro s A l es tg Q E hs B hh hd hu hl hel hok hQ
    obtain ⟨lo, me, T⟩ := B.t
    refine gen_call (hs _ (.tail _ (.head _))) T.nolimit ⟨c', oc, vs, tc, rfl, hs _ (.head _), hdc, hvc⟩ (Nat.lt_of_le_of_lt hd (by decide)) hco hgen hk hcell (hbind s l) (fun y hy => ?_) hxe hxr hne hdb hdr hl (turn s.heap _ es tg (fun p hp h16 => ?_) B hel hok) hQ
    · rcases List.mem_cons.mp hy with rfl | hy
      · exact hxc
      · rw [List.mem_singleton.mp hy]; exact hxr
    · exact hs p (.tail _ (.tail _ (List.mem_filter.mpr ⟨hp, by simpa using h16⟩)))
  · rcases List.mem_cons.mp hq with rfl | hq
    · exact hoc
    · rcases List.mem_cons.mp hq with rfl | hq
      · exact (N _ (.head _)).1
      · exact (N _ (.tail _ (List.mem_filter.mp hq).1)).1
  · rcases List.mem_cons.mp hq with rfl | hq
    · exact ⟨n1, n2, .inr ⟨vs, _, tc, hdc, hvc⟩⟩
    · rcases List.mem_cons.mp hq with rfl | hq
      · exact ⟨f1, f2', .inl (N _ (.head _)).2.2⟩
      · have hm := List.mem_filter.mp hq
        have n := N _ (.tail _ hm.1)
        exact ⟨fun z => h98 (z ▸ n.2.2), by simpa using hm.2, .inl n.2.2⟩
noncomputable def PrepPost (w : World) (mg mb : Str → Option Value) (tst : Value → Bool) (s : Shared) (v : Value) (s' : Shared) : Prop := ∃ f sp, v = .ref f ∧ SieveOK w mg mb sp f okTag tst ∧ Supp s'.heap sp ∧ (∀ q ∈ sp, FreshO s.heap q) ∧ Gk s s' ∧ TI s'.heap
theorem prep_end {w : World} {mg mb : Str → Option Value} {s : Shared} {h : Heap} {L f : Addr} {m : Str → Option Value} {o : Obj} {rest : List (Addr × Obj)} {tk : Nat} {ps' : Array Value} {tst : Value → Bool}
    (F : Fr (hideAll s.heap [16]) L h m) (N : News (hideAll s.heap [16]) L h ((f, o) :: rest)) (htab : (16, tabObj ps') ∈ rest) (hrec : TabRec h qSel ps'.toList) (t98 : TabOk s.heap 98 qLam)
    (S : ∃ sp, SieveOK w mg mb sp f okTag tst ∧ Supp h sp ∧ ∀ q ∈ sp, FreshO (hideAll s.heap [16]) q) :
    PrepPost w mg mb tst s (.ref f) { s with heap := h, toks := tk } := by
  have k : ∀ b o, b ≠ 16 → s.heap.get? b = some o → h.get? b = some o := fun b o hb e => F.keep b o (hideAll_get _ e (by intro q; exact hb (List.mem_singleton.mp q)))
  obtain ⟨sp, S1, S2, S3⟩ := S
  refine ⟨f, sp, rfl, S1, S2, fun q hq => ?_, ⟨h, tk, rfl, fun b o _ hb e => k b o hb e⟩, ⟨t98.but (fun b o _ hb e => k b o hb e) (k 98 · (by decide)), ⟨ps', (N _ (.tail _ htab)).1, hrec⟩⟩⟩
  obtain ⟨n1, n2, r⟩ := S3 q hq
  refine ⟨n1, n2, r.imp (fun e => ?_) id⟩
  cases z : s.heap.get? q.1 with
  | none => rfl
  | some o' => rw [hideAll_get [16] z (by intro z; exact n2 (List.mem_singleton.mp z))] at e; cases e
theorem nameX_F0 {M : Model} {A : Around} {E : Value → Shared → Prop} {s : Shared} {h₀ : Heap} {L a : Addr} {m : Str → Option Value} {cn : Str} {cs : Scope} {ccd : Value} {cl : List (Str × Addr)}
  {x : Str} {pos : Pos} {v : Value} {Q : Value → Shared → Prop} {news : List (Addr × Obj)} {c : Addr} {o : Obj} (F : Fr h₀ L s.heap m) (kn : ∀ p ∈ news, p.1 ≠ 16 → h₀.get? p.1 = some p.2) (hc : cl.lookup x = some c) (hm : (c, o) ∈ news) (n16 : c ≠ 16) (hd : o.data = .cell (some v)) (h : Q v s)
    (hk : cs.kind = .function) (hx : (envX cn cs L a ccd cl).kindOf x = some .free) (hb : (x == ("__debug__" : Str)) = false := by decide) (hn : (x == ("__classdict__" : Str)) = false := by decide) :
    wpAny M A (eval (.Name x pos) (envX cn cs L a ccd cl)) Q E s := wpAny_Name (wpAny_loadName_free hk hx hc ⟨o, F.keep _ _ (kn _ hm n16), hd⟩ h hn) hb
section
variable {prog : Program} {w : World} {A : Around} {E : Value → Shared → Prop} {s : Shared} {h₀ : Heap} {L : Addr} {m : Str → Option Value} {news : List (Addr × Obj)} {Q : Value → Shared → Prop} {x : Str} {t : Tok} {a : Addr} {value slice : Expr} {i : Int} {u : Tok}
theorem cut_hi (hF : Fr h₀ L s.heap m) (kn : ∀ p ∈ news, p.1 ≠ 16 → h₀.get? p.1 = some p.2) (hm : (a, sliceO .none (.int i u)) ∈ news) (n16 : a ≠ 16) (hsz : x.length ≤ 20) (h : ∀ t' k, Q (.str (Txt.slice x none (some i)) t') { s with toks := k })
    (hs : subscripted slice false (.str x t) (.ref a) = operate [.str x t, .ref a] (getItem (.str x t) (.ref a)) := by with_unfolding_all rfl)
    (ht : ∀ r, letTemporaryGo value (.str x t) r = pure () := by intro _; with_unfolding_all rfl) :
    wpAny (model prog w) A (subscriptTail value slice (.str x t) (.ref a)) Q E s :=
  tail_of_ItemOn ⟨"str", _, F.slot_str_getitem.lookup, typeIs_str _ _ _, wpAny_getItem_str_slice (l := none) (u := some (i, u)) (st := none) ⟨_, hF.keep _ _ (kn _ hm n16), rfl, rfl⟩ rfl
    (post_val_or_str ⟨Nat.le_trans (Txt.slice_le x _ _) (Nat.le_trans hsz (by decide)), fun t' k => h t' k⟩)⟩ hs ht
theorem cut_lo (hF : Fr h₀ L s.heap m) (kn : ∀ p ∈ news, p.1 ≠ 16 → h₀.get? p.1 = some p.2) (hm : (a, sliceO (.int i u) .none) ∈ news) (n16 : a ≠ 16) (hsz : x.length ≤ 20) (h : ∀ t' k, Q (.str (Txt.slice x (some i) none) t') { s with toks := k })
    (hs : subscripted slice false (.str x t) (.ref a) = operate [.str x t, .ref a] (getItem (.str x t) (.ref a)) := by with_unfolding_all rfl)
    (ht : ∀ r, letTemporaryGo value (.str x t) r = pure () := by intro _; with_unfolding_all rfl) :
    wpAny (model prog w) A (subscriptTail value slice (.str x t) (.ref a)) Q E s :=
  tail_of_ItemOn ⟨"str", _, F.slot_str_getitem.lookup, typeIs_str _ _ _, wpAny_getItem_str_slice (l := some (i, u)) (u := none) (st := none) ⟨_, hF.keep _ _ (kn _ hm n16), rfl, rfl⟩ rfl
    (post_val_or_str ⟨Nat.le_trans (Txt.slice_le x _ _) (Nat.le_trans hsz (by decide)), fun t' k => h t' k⟩)⟩ hs ht
theorem get_el {name : Str} {e : Addr} {p v : Value} {ex : Bool} (F : Fr h₀ L s.heap m) (x : Elem h₀ e p v) (hn : name = Str.ofString "tag") (hh : handedOut v = pure v) (h : Q v { s with toks := s.toks + 1 }) :
    wpAny (model prog w) A (getAttr (.ref e) name ex) Q E s := by
  subst hn
  obtain ⟨fd, dx, od, mA, h1, h2, h3, h4, h5, _⟩ := x.ex
  exact getAttr_fn lk_fn_tag (F.keep _ _ h1) (h3 _ _ (F.keep _ _ h2)).ns h5 hh h
end
theorem lines_C7_4 : True := by
  k_with "getAttr ref" => (k_here; k_dflt (refine' get_el ?zqF ?zqx ?zqn ?zqhh ?_; (case zqF => k_asm); (case zqx => assumption); (case zqn => exact rfl); (case zqhh => exact rfl)))
  k_with "eval Name" => (k_here; k_dflt (refine' nameX_F0 ?zqF ?zqkn ?zqc ?zqm ?zqn ?zqd ?_ ?zqa ?zqb; (case zqa => rfl); (case zqb => rfl); (case zqF => k_asm); (case zqkn => assumption); (case zqc => rfl); (case zqm => k_mem); (case zqd => k_asm); (case zqn => (show @Ne Nat _ 16); omega)))
  k_with "subscriptTail" => (k_here; first
  | (k_dflt (refine' cut_hi ?zqF ?zqkn ?zqm ?zqn ?zqz ?_; (case zqF => k_asm); (case zqkn => assumption); (case zqm => k_mem); (case zqz => assumption); (case zqn => (show @Ne Nat _ 16); omega)); intro t' k')
  | (k_dflt (refine' cut_lo ?zqF ?zqkn ?zqm ?zqn ?zqz ?_; (case zqF => k_asm); (case zqkn => assumption); (case zqm => k_mem); (case zqz => assumption); (case zqn => (show @Ne Nat _ 16); omega)); intro t' k'))
  trivial
noncomputable def strTst (p : Str → Bool) : Value → Bool | .str x _ => p x | _ => false
theorem or_t {a b : Bool} (ha : a = true) : (a || b) = true := by rw [ha]; rfl
theorem or_f {a b c : Bool} (ha : a = false) (hb : b = c) : (a || b) = c := by rw [ha, hb]; rfl
set_option maxHeartbeats 8000000 in
theorem c_prep_a {w : World} {s : Shared} {g : Heap} {mg mb : Str → Option Value} (B : Bs w mg mb g) (kg : ∀ b o, g.get? b = some o → s.heap.get? b = some o) (n16 : g.get? 16 = none)
    (C : CodeHd g 20 16) (I : TI s.heap) (tag : Str) (hlen : tag.length ≤ 20) (t1 : Tok)
    (hk1 : (tag == Str.ofString "{*}*") = true) :
    wpAny (model P w) (AA 7) (call (.ref 21) [.str tag t1]) (fun v s' => Parked (PrepPost w mg mb (strTst fun _ => true) s v s')) (fun _ _ => False) s := by
  refine by_G fun G_ back_ => ?_
  obtain ⟨ps, hps, hrec⟩ := I.t16
  refine back_ ?_
  clear back_ G_
  have ht := hrec.ok
  have h16 : @LT.lt Nat _ 16 s.heap.objs.size := Heap.lt_size hps
  have B' : Bs w mg mb (hideAll s.heap [16]) := B.keeps fun b o e => hideAll_get _ (kg b o e) (by intro q; rw [List.mem_singleton.mp q, n16] at e; cases e)
  have C' : CodeHd (hideAll s.heap [16]) 20 16 := C.keeps fun b o e => hideAll_get _ (kg b o e) (by intro q; rw [List.mem_singleton.mp q, n16] at e; cases e)
  have X := B'.x
  have r0 : TabRec (hideAll s.heap [16]) qSel ps.toList := hrec.mono _ (fun c' n1 n2 ⟨c, o, vs, t, e, ho, r⟩ => by cases e; exact ⟨c', o, vs, t, rfl, hideAll_get [16] ho (by intro q; exact n2 (List.mem_singleton.mp q)), r⟩)
  have h98 : (hideAll s.heap [16]).get? 98 ≠ none := by
    refine by_G fun G_ back_ => ?_
    obtain ⟨ps8, e8, _⟩ := I.t98
    refine back_ ?_
    clear back_ G_
    rw [hideAll_get [16] e8 (by decide)]; exact fun q => by cases q
  refine by_G fun G_ back_ => ?_
  obtain ⟨loose, mean, T⟩ := B'.t
  refine back_ ?_
  clear back_ G_
  refine wpAny_call ?_
  refine' enterGC (g := hideAll s.heap [16]) (binds := [(Str.ofString "tag", .str tag t1)]) X T.nolimit (fun b o e => of_hideAll _ e) (hideAll_size _ _) ?k6 ?k7 ?k8 ?k9 ?kB ?kD ?_ ?c2 ?c3 ?c4
  walk_at "mine in"
  intro h₁ tk cells F NC Y kk
  have N : News (hideAll s.heap [16]) s.heap.objs.size h₁ (cells ++ [(16, tabObj ps)]) := fun p hp => by
    rcases List.mem_append.mp hp with hp | hp
    · exact NC p hp
    · rw [List.mem_singleton.mp hp]; exact ⟨kk _ _ hps, Nat.ne_of_lt h16, hideAll_none _ (.head _)⟩
  clear NC kk
  k_cells Y
  simp only [List.cons_append, List.nil_append] at N
  (try dsimp only)
  (try k_fold)
  k_steps
  show Parked (PrepPost _ _ _ _ _ (.ref _) _)
  refine prep_end (by assumption) (by assumption) (by repeat (first | exact .head _ | apply List.Mem.tail)) (by assumption) I.t98 ?_
  refine sieve_of (pre := []) (by assumption) h98 (by omega) (by assumption) (by assumption) (by assumption) rfl rfl rfl rfl (by decide) (fun _ _ => BindsTo.of_eq rfl) rfl rfl rfl (by decide) (by decide) (by decide) ?_
  intro h₂ L₂ es tg kn B₂ hel hok s₂ m₂ e rest he F₂ N₂
  refine by_G fun G_ back_ => ?_
  obtain ⟨pl, hE⟩ := hel e he
  refine back_ ?_
  clear back_ G_
  have hT := hok e he
  clear hel hok B C I B' C' X T r0 hrec
  have X := B₂.x
  refine by_G fun G_ back_ => ?_
  obtain ⟨loose, mean, T⟩ := B₂.t
  refine back_ ?_
  clear back_ G_
  generalize hv : tg e = v at hE hT ⊢
  rcases hT with ⟨x, t, rfl, hx, hx0⟩ | ⟨i, t, rfl⟩
  all_goals k_steps
  all_goals (refine ⟨rfl, ?_⟩)
  all_goals k_steps
  all_goals (refine ⟨?_, _, _, _, rfl, ?_, by assumption, by assumption⟩)
  all_goals first | rfl | (show _ = strTst _ (tg e); first | (rw [hv]; done) | (rw [hv]; dsimp only [strTst]; done) | (rw [hv]; dsimp only [strTst]; first | exact Eq.symm (by assumption) | exact (or_f (by assumption) (by assumption)).symm | exact (or_t (by assumption)).symm))
set_option maxHeartbeats 8000000 in
theorem c_prep_b {w : World} {s : Shared} {g : Heap} {mg mb : Str → Option Value} (B : Bs w mg mb g) (kg : ∀ b o, g.get? b = some o → s.heap.get? b = some o) (n16 : g.get? 16 = none)
    (C : CodeHd g 20 16) (I : TI s.heap) (tag : Str) (hlen : tag.length ≤ 20) (t1 : Tok)
    (hk1 : ¬ (tag == Str.ofString "{*}*") = true) (hk2 : (tag == Str.ofString "{}*") = true) :
    wpAny (model P w) (AA 7) (call (.ref 21) [.str tag t1]) (fun v s' => Parked (PrepPost w mg mb (strTst fun x => Txt.item x 0 != Str.ofString "{") s v s')) (fun _ _ => False) s := by
  refine by_G fun G_ back_ => ?_
  obtain ⟨ps, hps, hrec⟩ := I.t16
  refine back_ ?_
  clear back_ G_
  have ht := hrec.ok
  have h16 : @LT.lt Nat _ 16 s.heap.objs.size := Heap.lt_size hps
  have B' : Bs w mg mb (hideAll s.heap [16]) := B.keeps fun b o e => hideAll_get _ (kg b o e) (by intro q; rw [List.mem_singleton.mp q, n16] at e; cases e)
  have C' : CodeHd (hideAll s.heap [16]) 20 16 := C.keeps fun b o e => hideAll_get _ (kg b o e) (by intro q; rw [List.mem_singleton.mp q, n16] at e; cases e)
  have X := B'.x
  have r0 : TabRec (hideAll s.heap [16]) qSel ps.toList := hrec.mono _ (fun c' n1 n2 ⟨c, o, vs, t, e, ho, r⟩ => by cases e; exact ⟨c', o, vs, t, rfl, hideAll_get [16] ho (by intro q; exact n2 (List.mem_singleton.mp q)), r⟩)
  have h98 : (hideAll s.heap [16]).get? 98 ≠ none := by
    refine by_G fun G_ back_ => ?_
    obtain ⟨ps8, e8, _⟩ := I.t98
    refine back_ ?_
    clear back_ G_
    rw [hideAll_get [16] e8 (by decide)]; exact fun q => by cases q
  refine by_G fun G_ back_ => ?_
  obtain ⟨loose, mean, T⟩ := B'.t
  refine back_ ?_
  clear back_ G_
  refine wpAny_call ?_
  refine' enterGC (g := hideAll s.heap [16]) (binds := [(Str.ofString "tag", .str tag t1)]) X T.nolimit (fun b o e => of_hideAll _ e) (hideAll_size _ _) ?k6 ?k7 ?k8 ?k9 ?kB ?kD ?_ ?c2 ?c3 ?c4
  walk_at "mine in"
  intro h₁ tk cells F NC Y kk
  have N : News (hideAll s.heap [16]) s.heap.objs.size h₁ (cells ++ [(16, tabObj ps)]) := fun p hp => by
    rcases List.mem_append.mp hp with hp | hp
    · exact NC p hp
    · rw [List.mem_singleton.mp hp]; exact ⟨kk _ _ hps, Nat.ne_of_lt h16, hideAll_none _ (.head _)⟩
  clear NC kk
  k_cells Y
  simp only [List.cons_append, List.nil_append] at N
  (try dsimp only)
  (try k_fold)
  k_steps
  show Parked (PrepPost _ _ _ _ _ (.ref _) _)
  refine prep_end (by assumption) (by assumption) (by repeat (first | exact .head _ | apply List.Mem.tail)) (by assumption) I.t98 ?_
  refine sieve_of (pre := [_]) (by assumption) h98 (by omega) (by assumption) (by assumption) (by assumption) rfl rfl rfl rfl (by decide) (fun _ _ => BindsTo.of_eq rfl) rfl rfl rfl (by decide) (by decide) (by decide) ?_
  intro h₂ L₂ es tg kn B₂ hel hok s₂ m₂ e rest he F₂ N₂
  refine by_G fun G_ back_ => ?_
  obtain ⟨pl, hE⟩ := hel e he
  refine back_ ?_
  clear back_ G_
  have hT := hok e he
  clear hel hok B C I B' C' X T r0 hrec
  have X := B₂.x
  refine by_G fun G_ back_ => ?_
  obtain ⟨loose, mean, T⟩ := B₂.t
  refine back_ ?_
  clear back_ G_
  generalize hv : tg e = v at hE hT ⊢
  rcases hT with ⟨x, t, rfl, hx, hx0⟩ | ⟨i, t, rfl⟩
  all_goals k_steps
  all_goals (refine ⟨rfl, ?_⟩)
  all_goals k_steps
  all_goals (refine ⟨?_, _, _, _, rfl, ?_, by assumption, by assumption⟩)
  all_goals first | rfl | (show _ = strTst _ (tg e); first | (rw [hv]; done) | (rw [hv]; dsimp only [strTst]; done) | (rw [hv]; dsimp only [strTst]; first | exact Eq.symm (by assumption) | exact (or_f (by assumption) (by assumption)).symm | exact (or_t (by assumption)).symm))
set_option maxHeartbeats 8000000 in
theorem c_prep_c {w : World} {s : Shared} {g : Heap} {mg mb : Str → Option Value} (B : Bs w mg mb g) (kg : ∀ b o, g.get? b = some o → s.heap.get? b = some o) (n16 : g.get? 16 = none)
    (C : CodeHd g 20 16) (I : TI s.heap) (tag : Str) (hlen : tag.length ≤ 20) (t1 : Tok)
    (hk1 : ¬ (tag == Str.ofString "{*}*") = true) (hk2 : ¬ (tag == Str.ofString "{}*") = true) (hk3 : (Txt.slice tag none (some 3) == Str.ofString "{*}") = true) :
    wpAny (model P w) (AA 7) (call (.ref 21) [.str tag t1]) (fun v s' => Parked (PrepPost w mg mb (strTst fun x => x == Txt.slice tag (some 3) none || Txt.slice x (some (-(Txt.slice tag (some 2) none).length)) none == Txt.slice tag (some 2) none) s v s')) (fun _ _ => False) s := by
  refine by_G fun G_ back_ => ?_
  obtain ⟨ps, hps, hrec⟩ := I.t16
  refine back_ ?_
  clear back_ G_
  have ht := hrec.ok
  have h16 : @LT.lt Nat _ 16 s.heap.objs.size := Heap.lt_size hps
  have B' : Bs w mg mb (hideAll s.heap [16]) := B.keeps fun b o e => hideAll_get _ (kg b o e) (by intro q; rw [List.mem_singleton.mp q, n16] at e; cases e)
  have C' : CodeHd (hideAll s.heap [16]) 20 16 := C.keeps fun b o e => hideAll_get _ (kg b o e) (by intro q; rw [List.mem_singleton.mp q, n16] at e; cases e)
  have X := B'.x
  have r0 : TabRec (hideAll s.heap [16]) qSel ps.toList := hrec.mono _ (fun c' n1 n2 ⟨c, o, vs, t, e, ho, r⟩ => by cases e; exact ⟨c', o, vs, t, rfl, hideAll_get [16] ho (by intro q; exact n2 (List.mem_singleton.mp q)), r⟩)
  have h98 : (hideAll s.heap [16]).get? 98 ≠ none := by
    refine by_G fun G_ back_ => ?_
    obtain ⟨ps8, e8, _⟩ := I.t98
    refine back_ ?_
    clear back_ G_
    rw [hideAll_get [16] e8 (by decide)]; exact fun q => by cases q
  refine by_G fun G_ back_ => ?_
  obtain ⟨loose, mean, T⟩ := B'.t
  refine back_ ?_
  clear back_ G_
  refine wpAny_call ?_
  refine' enterGC (g := hideAll s.heap [16]) (binds := [(Str.ofString "tag", .str tag t1)]) X T.nolimit (fun b o e => of_hideAll _ e) (hideAll_size _ _) ?k6 ?k7 ?k8 ?k9 ?kB ?kD ?_ ?c2 ?c3 ?c4
  walk_at "mine in"
  intro h₁ tk cells F NC Y kk
  have N : News (hideAll s.heap [16]) s.heap.objs.size h₁ (cells ++ [(16, tabObj ps)]) := fun p hp => by
    rcases List.mem_append.mp hp with hp | hp
    · exact NC p hp
    · rw [List.mem_singleton.mp hp]; exact ⟨kk _ _ hps, Nat.ne_of_lt h16, hideAll_none _ (.head _)⟩
  clear NC kk
  k_cells Y
  simp only [List.cons_append, List.nil_append] at N
  (try dsimp only)
  (try k_fold)
  k_steps
  show Parked (PrepPost _ _ _ _ _ (.ref _) _)
  refine prep_end (by assumption) (by assumption) (by repeat (first | exact .head _ | apply List.Mem.tail)) (by assumption) I.t98 ?_
  refine sieve_of (pre := [_]) (by assumption) h98 (by omega) (by assumption) (by assumption) (by assumption) rfl rfl rfl rfl (by decide) (fun _ _ => BindsTo.of_eq rfl) rfl rfl rfl (by decide) (by decide) (by decide) ?_
  intro h₂ L₂ es tg kn B₂ hel hok s₂ m₂ e rest he F₂ N₂
  refine by_G fun G_ back_ => ?_
  obtain ⟨pl, hE⟩ := hel e he
  refine back_ ?_
  clear back_ G_
  have hT := hok e he
  clear hel hok B C I B' C' X T r0 hrec
  have X := B₂.x
  refine by_G fun G_ back_ => ?_
  obtain ⟨loose, mean, T⟩ := B₂.t
  refine back_ ?_
  clear back_ G_
  generalize hv : tg e = v at hE hT ⊢
  rcases hT with ⟨x, t, rfl, hx, hx0⟩ | ⟨i, t, rfl⟩
  all_goals k_steps
  all_goals (refine ⟨rfl, ?_⟩)
  all_goals k_steps
  all_goals (refine ⟨?_, _, _, _, rfl, ?_, by assumption, by assumption⟩)
  all_goals first | rfl | (show _ = strTst _ (tg e); first | (rw [hv]; done) | (rw [hv]; dsimp only [strTst]; done) | (rw [hv]; dsimp only [strTst]; first | exact Eq.symm (by assumption) | exact (or_f (by assumption) (by assumption)).symm | exact (or_t (by assumption)).symm))
set_option maxHeartbeats 8000000 in
theorem c_prep_d {w : World} {s : Shared} {g : Heap} {mg mb : Str → Option Value} (B : Bs w mg mb g) (kg : ∀ b o, g.get? b = some o → s.heap.get? b = some o) (n16 : g.get? 16 = none)
    (C : CodeHd g 20 16) (I : TI s.heap) (tag : Str) (hlen : tag.length ≤ 20) (t1 : Tok)
    (hk1 : ¬ (tag == Str.ofString "{*}*") = true) (hk2 : ¬ (tag == Str.ofString "{}*") = true) (hk3 : ¬ (Txt.slice tag none (some 3) == Str.ofString "{*}") = true) (hk4 : (Txt.slice tag (some (-2)) none == Str.ofString "}*") = true) :
    wpAny (model P w) (AA 7) (call (.ref 21) [.str tag t1]) (fun v s' => Parked (PrepPost w mg mb (strTst fun x => Txt.slice x none (some (Txt.slice tag none (some (-1))).length) == Txt.slice tag none (some (-1))) s v s')) (fun _ _ => False) s := by
  refine by_G fun G_ back_ => ?_
  obtain ⟨ps, hps, hrec⟩ := I.t16
  refine back_ ?_
  clear back_ G_
  have ht := hrec.ok
  have h16 : @LT.lt Nat _ 16 s.heap.objs.size := Heap.lt_size hps
  have B' : Bs w mg mb (hideAll s.heap [16]) := B.keeps fun b o e => hideAll_get _ (kg b o e) (by intro q; rw [List.mem_singleton.mp q, n16] at e; cases e)
  have C' : CodeHd (hideAll s.heap [16]) 20 16 := C.keeps fun b o e => hideAll_get _ (kg b o e) (by intro q; rw [List.mem_singleton.mp q, n16] at e; cases e)
  have X := B'.x
  have r0 : TabRec (hideAll s.heap [16]) qSel ps.toList := hrec.mono _ (fun c' n1 n2 ⟨c, o, vs, t, e, ho, r⟩ => by cases e; exact ⟨c', o, vs, t, rfl, hideAll_get [16] ho (by intro q; exact n2 (List.mem_singleton.mp q)), r⟩)
  have h98 : (hideAll s.heap [16]).get? 98 ≠ none := by
    refine by_G fun G_ back_ => ?_
    obtain ⟨ps8, e8, _⟩ := I.t98
    refine back_ ?_
    clear back_ G_
    rw [hideAll_get [16] e8 (by decide)]; exact fun q => by cases q
  refine by_G fun G_ back_ => ?_
  obtain ⟨loose, mean, T⟩ := B'.t
  refine back_ ?_
  clear back_ G_
  refine wpAny_call ?_
  refine' enterGC (g := hideAll s.heap [16]) (binds := [(Str.ofString "tag", .str tag t1)]) X T.nolimit (fun b o e => of_hideAll _ e) (hideAll_size _ _) ?k6 ?k7 ?k8 ?k9 ?kB ?kD ?_ ?c2 ?c3 ?c4
  walk_at "mine in"
  intro h₁ tk cells F NC Y kk
  have N : News (hideAll s.heap [16]) s.heap.objs.size h₁ (cells ++ [(16, tabObj ps)]) := fun p hp => by
    rcases List.mem_append.mp hp with hp | hp
    · exact NC p hp
    · rw [List.mem_singleton.mp hp]; exact ⟨kk _ _ hps, Nat.ne_of_lt h16, hideAll_none _ (.head _)⟩
  clear NC kk
  k_cells Y
  simp only [List.cons_append, List.nil_append] at N
  (try dsimp only)
  (try k_fold)
  k_steps
  show Parked (PrepPost _ _ _ _ _ (.ref _) _)
  refine prep_end (by assumption) (by assumption) (by repeat (first | exact .head _ | apply List.Mem.tail)) (by assumption) I.t98 ?_
  refine sieve_of (pre := [_]) (by assumption) h98 (by omega) (by assumption) (by assumption) (by assumption) rfl rfl rfl rfl (by decide) (fun _ _ => BindsTo.of_eq rfl) rfl rfl rfl (by decide) (by decide) (by decide) ?_
  intro h₂ L₂ es tg kn B₂ hel hok s₂ m₂ e rest he F₂ N₂
  refine by_G fun G_ back_ => ?_
  obtain ⟨pl, hE⟩ := hel e he
  refine back_ ?_
  clear back_ G_
  have hT := hok e he
  clear hel hok B C I B' C' X T r0 hrec
  have X := B₂.x
  refine by_G fun G_ back_ => ?_
  obtain ⟨loose, mean, T⟩ := B₂.t
  refine back_ ?_
  clear back_ G_
  generalize hv : tg e = v at hE hT ⊢
  rcases hT with ⟨x, t, rfl, hx, hx0⟩ | ⟨i, t, rfl⟩
  all_goals k_steps
  all_goals (refine ⟨rfl, ?_⟩)
  all_goals k_steps
  all_goals (refine ⟨?_, _, _, _, rfl, ?_, by assumption, by assumption⟩)
  all_goals first | rfl | (show _ = strTst _ (tg e); first | (rw [hv]; done) | (rw [hv]; dsimp only [strTst]; done) | (rw [hv]; dsimp only [strTst]; first | exact Eq.symm (by assumption) | exact (or_f (by assumption) (by assumption)).symm | exact (or_t (by assumption)).symm))
end
-- D1
section
open PyProof.Rows.LCg (lst lst_snoc)
/-! list comprehensions over lists -/
noncomputable def Ext (s s' : Shared) : Prop := ∃ h tk gs, s' = { s with heap := h, toks := tk, gens := gs } ∧ (∀ b o, b ≠ 98 → b ≠ 16 → s.heap.get? b = some o → h.get? b = some o) ∧ TI h ∧ AllBare gs
theorem Ext.refl {s : Shared} (hT : TI s.heap) (hg : AllBare s.gens) : Ext s s := ⟨s.heap, s.toks, s.gens, rfl, fun _ _ _ _ e => e, hT, hg⟩
theorem Ext.trans {s s' s'' : Shared} (x : Ext s s') (y : Ext s' s'') : Ext s s'' := by
  obtain ⟨h, tk, gs, rfl, k, _, _⟩ := x
  obtain ⟨h', tk', gs', rfl, k', t, g⟩ := y
  exact ⟨h', tk', gs', rfl, fun b o n1 n2 e => k' b o n1 n2 (k b o n1 n2 e), t, g⟩
theorem Ext.ti {s s' : Shared} (x : Ext s s') : TI s'.heap := by obtain ⟨h, tk, gs, rfl, k, t, g⟩ := x; exact t
theorem Ext.bare {s s' : Shared} (x : Ext s s') : AllBare s'.gens := by obtain ⟨h, tk, gs, rfl, k, t, g⟩ := x; exact g
theorem Ext.get {s s' : Shared} (x : Ext s s') : ∀ b o, b ≠ 98 → b ≠ 16 → s.heap.get? b = some o → s'.heap.get? b = some o := by obtain ⟨h, tk, gs, rfl, k, t, g⟩ := x; exact k
theorem Ext.keep {s s' : Shared} (x : Ext s s') {h' : Heap} {tk : Nat} (k' : ∀ b o, s'.heap.get? b = some o → h'.get? b = some o) : Ext s { s' with heap := h', toks := tk } := by
  obtain ⟨h, tk', gs, rfl, k, t, g⟩ := x
  exact ⟨h', tk, gs, rfl, fun b o n1 n2 e => k' b o (k b o n1 n2 e), t.keeps k', g⟩
theorem Ext.keeps {s s' s'' : Shared} (x : Ext s s') (k' : Keeps s' s'') : Ext s s'' := by
  obtain ⟨h', tk, rfl, r⟩ := k'
  exact x.keep r
noncomputable def NotCode (o : Obj) : Prop := ∀ vs (x : Str) t, o.data = .fields vs → vs[1]? = some (Value.str x t) → False
theorem TI.change {h h' : Heap} {a : Addr} {oa : Obj} (t : TI h) (k : ∀ b o, b ≠ a → h.get? b = some o → h'.get? b = some o) (ha : h.get? a = some oa) (hn : NotCode oa) (n1 : a ≠ 98) (n2 : a ≠ 16) : TI h' := by
  have kc : ∀ q c', h.CodeRec (.ref c') q → h'.CodeRec (.ref c') q := by
    rintro q c' ⟨c, o, vs, t, e, ho, hd, hv⟩
    cases e
    refine ⟨c', o, vs, t, rfl, k _ _ (fun z => ?_) ho, hd, hv⟩
    rw [z] at ho
    rw [show h.get? a = some o from ho] at ha
    cases ha
    exact hn _ _ _ hd hv
  obtain ⟨⟨p1, e1, r1⟩, ⟨p2, e2, r2⟩⟩ := t
  exact ⟨⟨p1, k _ _ (Ne.symm n1) e1, r1.mono _ fun c' _ _ => kc _ c'⟩, ⟨p2, k _ _ (Ne.symm n2) e2, r2.mono _ fun c' _ _ => kc _ c'⟩⟩
theorem Ext.change {s s' : Shared} (x : Ext s s') {h' : Heap} {tk : Nat} {a : Addr} {oa : Obj} (k' : ∀ b o, b ≠ a → s'.heap.get? b = some o → h'.get? b = some o) (ha : s'.heap.get? a = some oa) (hn : NotCode oa) (n1 : a ≠ 98) (n2 : a ≠ 16) (hf : s.heap.get? a = none) :
    Ext s { s' with heap := h', toks := tk } := by
  obtain ⟨h, tk', gs, rfl, k, t, g⟩ := x
  exact ⟨h', tk, gs, rfl, fun b o m1 m2 e => k' b o (fun z => by rw [z, hf] at e; cases e) (k b o m1 m2 e), t.change k' ha hn n1 n2, g⟩
theorem notCode_seq {o : Obj} {vs n} (h : o.data = .seq vs n) : NotCode o := fun _ _ _ e _ => by rw [h] at e; cases e
theorem notCode_iter {o : Obj} {l : Addr} {i : Nat} (h : o.data = .fields #[.ref l, .int i 0]) : NotCode o := fun _ _ _ e q => by rw [h] at e; cases e; cases q
theorem notCode_ns {h : Heap} {C : Addr} {m : Str → Option Value} (x : h.Ns C m) : ∃ o, h.get? C = some o ∧ NotCode o := let ⟨o, es, ep, e, hd, _⟩ := x; ⟨o, e, fun _ _ _ q _ => by rw [hd] at q; cases q⟩
theorem ti_lt {h : Heap} (t : TI h) : (98 : Nat) < h.objs.size ∧ (16 : Nat) < h.objs.size := let ⟨⟨_, e1, _⟩, ⟨_, e2, _⟩⟩ := t; ⟨Heap.lt_size e1, Heap.lt_size e2⟩
theorem All2.snoc {α β : Type} {R : α → β → Prop} {as : List α} {bs : List β} (h : All2 R as bs) {a : α} {b : β} (r : R a b) : All2 R (as ++ [a]) (bs ++ [b]) := by
  induction h with
  | nil => exact .cons r .nil
  | cons q _ ih => exact .cons q ih
/-- after a test in a comprehension's frame C -/
noncomputable def KeepC (C : Addr) (x : Str) (v : Value) (s s' : Shared) : Prop := ∃ h tk m', s' = { s with heap := h, toks := tk } ∧ (∀ b o, b ≠ C → s.heap.get? b = some o → h.get? b = some o) ∧ h.Ns C m' ∧ m' x = some v
/-- after an element in a comprehension's frame C -/
noncomputable def ExtC (C : Addr) (s s' : Shared) : Prop := ∃ h tk gs m', s' = { s with heap := h, toks := tk, gens := gs } ∧ (∀ b o, b ≠ C → b ≠ 98 → b ≠ 16 → s.heap.get? b = some o → h.get? b = some o) ∧ h.Ns C m' ∧ TI h ∧ AllBare gs
theorem Ext.keepC {s s' s'' : Shared} {C : Addr} {x : Str} {v : Value} {m : Str → Option Value} (X : Ext s s') (k : KeepC C x v s' s'') (hn : s'.heap.Ns C m) (n1 : C ≠ 98) (n2 : C ≠ 16) (hf : s.heap.get? C = none) : Ext s s'' := by
  obtain ⟨h, tk, m', rfl, k, _, _⟩ := k
  obtain ⟨oC, e, nc⟩ := notCode_ns hn
  exact X.change (a := C) k e nc n1 n2 hf
theorem Ext.extC {s s' s'' : Shared} {C : Addr} (X : Ext s s') (k : ExtC C s' s'') (hf : s.heap.get? C = none) : Ext s s'' := by
  obtain ⟨h, tk, gs, m', rfl, k, _, ht, hg⟩ := k
  obtain ⟨h1, tk1, gs1, rfl, k1, _, _⟩ := X
  exact ⟨h, tk, gs, rfl, fun b o n1 n2 e => k b o (fun z => by rw [z, hf] at e; cases e) n1 n2 (k1 b o n1 n2 e), ht, hg⟩
section
variable {w : World} {A : Around} {E : Value → Shared → Prop} {env : Env}
/-- where a comprehension's iterator I, list D and frame C stand -/
structure CFresh (s₁ : Shared) (I D C : Addr) : Prop where
  DC : D ≠ C
  IC : I ≠ C
  ID : I ≠ D
  If : s₁.heap.get? I = none
  Df : s₁.heap.get? D = none
  Cf : s₁.heap.get? C = none
  Cle : s₁.heap.objs.size ≤ C
  I98 : I ≠ 98
  I16 : I ≠ 16
  D98 : D ≠ 98
  D16 : D ≠ 16
  C98 : C ≠ 98
  C16 : C ≠ 16
/-- between two turns -/
structure CTurn {γ : Type} (p : Value → Bool) (G : Value × γ → Value → List (Addr × Obj) → Prop) (n : Nat) (its' : List (Value × γ)) (s₁ : Shared) (ax I D C : Addr) (s' : Shared) (i : Nat) (ys : List Value) (m' : Str → Option Value) : Prop where
  hi : i ≤ n
  hyl : ys.length ≤ i
  hX : Ext s₁ s'
  hD' : s'.heap.get? D = some (lst ys)
  hC' : s'.heap.Ns C m'
  hit : s'.heap.IsListIter I ax i
  hA : All2 (fun v y => ∃ sp, G v y sp ∧ Supp s'.heap sp ∧ ∀ q ∈ sp, FreshO s₁.heap q ∧ q.1 ≠ I ∧ q.1 ≠ C ∧ q.1 ≠ D) ((its'.take i).filter fun v => p v.1) ys
noncomputable def CState {γ : Type} (p : Value → Bool) (G : Value × γ → Value → List (Addr × Obj) → Prop) (n : Nat) (its' : List (Value × γ)) (s₁ : Shared) (ax I D C : Addr) (k : Nat) (s' : Shared) : Prop :=
  ∃ i ys m', k = n + 1 - i ∧ CTurn p G n its' s₁ ax I D C s' i ys m'
theorem CTurn.none {γ : Type} {p : Value → Bool} {G : Value × γ → Value → List (Addr × Obj) → Prop} {n : Nat} {its' : List (Value × γ)} {s₁ : Shared} {ax I D C : Addr} {s' s₄ : Shared} {i : Nat} {ys : List Value} {m' m₄ : Str → Option Value} {vc : Value × γ}
    (S : CTurn p G n its' s₁ ax I D C s' i ys m') (F : CFresh s₁ I D C) (hlt : i < n) (hc : its'[i]? = some vc) (hpv : p vc.1 = false) (X4 : Ext s₁ s₄) (hC₄ : s₄.heap.Ns C m₄) (hit₄ : s₄.heap.IsListIter I ax (i + 1))
    (k : ∀ b o, b ≠ I → b ≠ C → s'.heap.get? b = some o → s₄.heap.get? b = some o) : ∃ j, j < n + 1 - i ∧ CState p G n its' s₁ ax I D C j s₄ := by
  have htake : its'.take (i + 1) = its'.take i ++ [vc] := by rw [List.take_add_one, hc]; rfl
  refine ⟨n + 1 - (i + 1), Nat.sub_lt_sub_left (Nat.lt_succ_of_lt hlt) (Nat.lt_succ_self i), i + 1, ys, _, rfl, hlt, Nat.le_succ_of_le S.hyl, X4, k _ _ (Ne.symm F.ID) F.DC S.hD', hC₄, hit₄, ?_⟩
  rw [htake, List.filter_append, List.filter_cons_of_neg (by simp [hpv]), List.filter_nil, List.append_nil]
  exact S.hA.mono fun a b ⟨sp, h1, h2, h3⟩ => ⟨sp, h1, fun q hq => k _ _ (h3 q hq).2.1 (h3 q hq).2.2.1 (h2 q hq), h3⟩
theorem CTurn.some {γ : Type} {p : Value → Bool} {G : Value × γ → Value → List (Addr × Obj) → Prop} {n : Nat} {its' : List (Value × γ)} {s₁ : Shared} {ax I D C : Addr} {s' s₄ s₅ s₆ : Shared} {i : Nat} {ys : List Value} {m' m₄ m₆ : Str → Option Value} {vc : Value × γ} {y : Value} {sp : List (Addr × Obj)}
    (S : CTurn p G n its' s₁ ax I D C s' i ys m') (F : CFresh s₁ I D C) (hlt : i < n) (hc : its'[i]? = some vc) (hpv : p vc.1 = true) (X4 : Ext s₁ s₄) (X6 : Ext s₁ s₆) (hC₄ : s₄.heap.Ns C m₄) (hC₅ : s₅.heap.Ns C m₆) (hC₆ : s₆.heap.Ns C m₆)
    (k : ∀ b o, b ≠ I → b ≠ C → s'.heap.get? b = some o → s₄.heap.get? b = some o) (k₅ : ∀ b o, b ≠ C → b ≠ 98 → b ≠ 16 → s₄.heap.get? b = some o → s₅.heap.get? b = some o) (k₆ : ∀ b o, b ≠ D → s₅.heap.get? b = some o → s₆.heap.get? b = some o)
    (hit₄ : s₄.heap.IsListIter I ax (i + 1)) (hit₆ : s₆.heap.IsListIter I ax (i + 1)) (hD₆ : s₆.heap.get? D = some (lst (ys ++ [y]))) (hG : G vc y sp) (hS : Supp s₅.heap sp) (hF : ∀ q ∈ sp, FreshO s₄.heap q) :
    ∃ j, j < n + 1 - i ∧ CState p G n its' s₁ ax I D C j s₆ := by
  have htake : its'.take (i + 1) = its'.take i ++ [vc] := by rw [List.take_add_one, hc]; rfl
  refine ⟨n + 1 - (i + 1), Nat.sub_lt_sub_left (Nat.lt_succ_of_lt hlt) (Nat.lt_succ_self i), i + 1, ys ++ [y], _, rfl, hlt, by rw [List.length_append, List.length_singleton]; exact Nat.succ_le_succ S.hyl, X6, hD₆, hC₆, hit₆, ?_⟩
  rw [htake, List.filter_append, List.filter_cons_of_pos (by simpa using hpv), List.filter_nil]
  have kD₄ := k _ _ (Ne.symm F.ID) F.DC S.hD'
  have ne : ∀ a oa oa', s₄.heap.get? a = Option.some oa' → NotCode oa → s₅.heap.get? a = Option.some oa → ∀ q ∈ sp, q.1 ≠ a := fun a oa oa' e1 e2 e3 q hq z => by
    obtain ⟨n1, n2, r⟩ := hF q hq
    rcases r with r | ⟨vs, x, t, r1, r2⟩
    · rw [z] at r
      rw [show s₄.heap.get? a = Option.none from r] at e1; cases e1
    · have := hS q hq
      rw [z, show Heap.get? s₅.heap a = Option.some oa from e3] at this
      cases this
      exact e2 _ _ _ r1 r2
  obtain ⟨oI, hoI, hoIr⟩ := hit₄
  obtain ⟨oC₄, hoC₄, _⟩ := notCode_ns hC₄
  obtain ⟨oC₅, hoC₅, hoCn₅⟩ := notCode_ns hC₅
  have offF : ∀ q ∈ sp, FreshO s₁.heap q ∧ q.1 ≠ I ∧ q.1 ≠ C ∧ q.1 ≠ D := fun q hq => by
    refine ⟨⟨(hF q hq).1, (hF q hq).2.1, (hF q hq).2.2.imp (fun e => ?_) id⟩, ne _ _ _ hoI (notCode_iter hoIr.2) (k₅ _ _ F.IC F.I98 F.I16 hoI) q hq, ne _ _ _ hoC₄ hoCn₅ hoC₅ q hq, ne _ _ _ kD₄ (notCode_seq rfl) (k₅ _ _ F.DC F.D98 F.D16 kD₄) q hq⟩
    cases z : s₁.heap.get? q.1 with
    | none => rfl
    | some o' => have := X4.get _ _ (hF q hq).1 (hF q hq).2.1 z; rw [show s₄.heap.get? q.1 = Option.none from e] at this; cases this
  refine All2.snoc (S.hA.mono fun a b ⟨sp, h1, h2, h3⟩ => ⟨sp, h1, fun q hq => ?_, h3⟩) ⟨sp, hG, fun q hq => k₆ _ _ (offF q hq).2.2.2 (hS q hq), offF⟩
  exact k₆ _ _ (h3 q hq).2.2.2 (k₅ _ _ (h3 q hq).2.2.1 (h3 q hq).1.1 (h3 q hq).1.2.1 (k _ _ (h3 q hq).2.1 (h3 q hq).2.2.1 (h2 q hq)))
set_option maxHeartbeats 1000000 in
theorem comp_loop {γ : Type} {s₁ s : Shared} {elt iter : Expr} {x : Str} {px : Pos} {ifs : List Expr} {scope : Scope} {cl : List (Str × Addr)} {pos : Pos} {R : Result → Shared → Prop} (p : Value → Bool) (G : Value × γ → Value → List (Addr × Obj) → Prop)
    {ax I D C : Addr} {its : Array Value} {its' : List (Value × γ)} {m : Str → Option Value} (hh : A.handled = none) (hkind : scope.kind = .function) (hx : scope.names.lookup x = some .local) (F : CFresh s₁ I D C)
    (hZ : its.toList = List.map Prod.fst its') (hl : s₁.heap.IsList ax its) (hsz : its.size ≤ sizeLine) (hT : TI s₁.heap)
    (htest : ∀ C v s₂ m₂, v ∈ its.toList → s₂.heap.Ns C m₂ → m₂ x = some v → s₁.heap.objs.size ≤ C → Ext s₁ s₂ →
        wpAny (model P w) A (forIn ifs true fun c r => if r = true then do let ok ← isTrue c (compEnvC scope cl C env) (eval c (compEnvC scope cl C env)); pure (ForInStep.yield ok) else pure (ForInStep.yield r)) (fun ok s₃ => Parked (ok = p v ∧ KeepC C x v s₂ s₃)) (fun _ _ => False) s₂)
    (helt : ∀ C (v : Value × γ) s₂ m₂, v ∈ its' → p v.1 = true → s₂.heap.Ns C m₂ → m₂ x = some v.1 → s₁.heap.objs.size ≤ C → Ext s₁ s₂ →
        wpAny (model P w) A (eval elt (compEnvC scope cl C env)) (fun y s₃ => Parked (ExtC C s₂ s₃ ∧ ∃ sp, G v y sp ∧ Supp s₃.heap sp ∧ ∀ q ∈ sp, FreshO s₂.heap q)) (fun _ _ => False) s₂)
    (hQ : ∀ ys s' m', Ext s₁ s' → s'.heap.Ns C m' → s'.heap.get? D = some (lst ys) → All2 (fun v y => ∃ sp, G v y sp ∧ Supp s'.heap sp ∧ ∀ q ∈ sp, FreshO s₁.heap q ∧ q.1 ≠ C) (its'.filter fun v => p v.1) ys → R (.ok .next) s')
    (S₀ : CTurn p G its.size its' s₁ ax I D C s 0 [] m) :
    codeAny (model P w) A (.compLoop (.ListComp elt [⟨.Name x px, iter, ifs, 0⟩] scope pos) 0 (.ref I) (.ref D) (compEnvC scope cl C env)) R s := by
  refine codeAny_compLoop_tests (CState p G its.size its' s₁ ax I D C) (fun k s' hS => ?_) (its.size + 1) ⟨0, [], m, rfl, S₀⟩
  clear S₀
  refine by_G fun G_ back_ => ?_
  obtain ⟨i, ys, m', rfl, S⟩ := hS
  obtain ⟨oI, hoI, hoIc, hoId⟩ := id S.hit
  obtain ⟨oC, hoC, hoCn⟩ := notCode_ns S.hC'
  have hax : ax ≠ 98 ∧ ax ≠ 16 := by
    obtain ⟨o, ho, hc, _⟩ := hl
    obtain ⟨⟨p1, e1, _⟩, ⟨p2, e2, _⟩⟩ := hT
    exact ⟨fun z => (by rw [z, e1] at ho; cases ho; cases hc), fun z => (by rw [z, e2] at ho; cases ho; cases hc)⟩
  have hls : s'.heap.IsList ax its := let ⟨o, ho, r⟩ := hl; ⟨o, S.hX.get _ _ hax.1 hax.2 ho, r⟩
  refine back_ ?_
  clear back_ G_
  by_cases hlt : i < its.size
  · obtain ⟨vc, hc⟩ : ∃ vc, its'[i]? = some vc := by
      have e : i < its'.length := by rw [← List.length_map (f := Prod.fst), ← hZ, Array.length_toList]; exact hlt
      exact ⟨its'[i], List.getElem?_eq_getElem e⟩
    have hv : its[i]? = some vc.1 := by rw [← Array.getElem?_toList, hZ, List.getElem?_map, hc]; rfl
    have hcm : vc ∈ its' := List.mem_of_getElem? hc
    have hvm : vc.1 ∈ its.toList := by rw [hZ]; exact List.mem_map_of_mem hcm
    refine wpAny_pyNext_list_item S.hit hls hv fun h₂ hit₂ hs₂ => ?_
    replace hs₂ : Heap.SameBut I s'.heap h₂ := hs₂
    have X2 : Ext s₁ { s' with heap := h₂, toks := s'.toks } := S.hX.change (a := I) hs₂.extBut hoI (notCode_iter hoId) F.I98 F.I16 F.If
    have hCh₂ : h₂.Ns C m' := S.hC'.at' fun o e => hs₂.extBut _ o F.IC.symm e
    refine wpAny_assign_Name (wpAny_storeName_local (lookup_relabel_local hx) hCh₂ (fun h₃ hn₃ hs₃ => ?_) (by simp [compEnvC, relabel, hkind]))
    replace hs₃ : Heap.SameBut C h₂ h₃ := hs₃
    replace hn₃ : h₃.Ns C _ := hn₃
    have X3 : Ext s₁ { s' with heap := h₃, toks := s'.toks + 1 } := (let ⟨_, q1, q2⟩ := notCode_ns hCh₂; X2.change (a := C) hs₃.extBut q1 q2 F.C98 F.C16 F.Cf)
    have hit₃ : h₃.IsListIter I ax (i + 1) := (let ⟨oI₂, hoI₂, r⟩ := hit₂; ⟨oI₂, hs₃.extBut _ _ F.IC hoI₂, r⟩)
    have kS₃ : ∀ b o, b ≠ I → b ≠ C → s'.heap.get? b = some o → h₃.get? b = some o := fun b o n1 n2 e => hs₃.extBut _ _ n2 (hs₂.extBut _ _ n1 e)
    clear hs₂ hs₃ hit₂ X2 hCh₂
    refine wpAny_mono (htest C vc.1 _ _ hvm hn₃ (by simp) F.Cle X3) (fun ok s₃ hok => ?_) fun _ _ q => q.elim
    refine by_G fun G_ back_ => ?_
    obtain ⟨rfl, hkc⟩ := hok
    have X4 := X3.keepC hkc hn₃ F.C98 F.C16 F.Cf
    obtain ⟨h₄, tk₄, m₄, rfl, k₄, hn₄, hm₄⟩ := hkc
    refine back_ ?_
    clear back_ G_
    have hit₄ : h₄.IsListIter I ax (i + 1) := (let ⟨oI₂, hoI₂, r⟩ := hit₃; ⟨oI₂, k₄ _ _ F.IC hoI₂, r⟩)
    have kS₄ : ∀ b o, b ≠ I → b ≠ C → s'.heap.get? b = some o → h₄.get? b = some o := fun b o n1 n2 e => k₄ _ _ n2 (kS₃ b o n1 n2 e)
    clear hit₃ kS₃ k₄
    cases hpv : p vc.1 with
    | false => exact (S.none F hlt hc hpv X4 hn₄ hit₄ kS₄ : _)
    | true =>
      rw [if_pos rfl]
      refine wpAny_mono (helt C vc _ _ hcm hpv hn₄ hm₄ F.Cle X4) (fun y s₅ hy => ?_) fun _ _ q => q.elim
      refine by_G fun G_ back_ => ?_
      obtain ⟨X5, sp, hG, hS, hF⟩ := hy
      have X45 := X4.extC X5 F.Cf
      obtain ⟨h₅, tk₅, gs₅, m₅, rfl, k₅, hn₅, _, _⟩ := X5
      refine back_ ?_
      clear back_ G_
      have kD₅ : h₅.get? D = some (lst ys) := k₅ _ _ F.DC F.D98 F.D16 (kS₄ _ _ (Ne.symm F.ID) F.DC S.hD')
      refine append_at (hsz := by show ys.toArray.size ≤ sizeLine; rw [List.size_toArray]; exact Nat.le_trans S.hyl (Nat.le_trans S.hi hsz)) kD₅ fun h₆ hs₆ hD₆ => ?_
      replace hs₆ : Heap.SameBut D h₅ h₆ := hs₆
      have X6 := X45.change (tk := tk₅) (h' := h₆) (a := D) hs₆.extBut kD₅ (notCode_seq rfl) F.D98 F.D16 F.Df
      exact S.some (s₅ := { s₁ with heap := h₅ }) F hlt hc hpv X4 X6 hn₄ hn₅ (hn₅.at' fun o e => hs₆.extBut _ _ (Ne.symm F.DC) e) kS₄ k₅ hs₆.extBut hit₄
        (let ⟨oI₂, hoI₂, r⟩ := hit₄; ⟨oI₂, hs₆.extBut _ _ F.ID (k₅ _ _ F.IC F.I98 F.I16 hoI₂), r⟩) (hD₆.trans (congrArg some (lst_snoc ys y))) hG hS hF
  · have hi : i = its.size := Nat.le_antisymm S.hi (Nat.not_lt.mp hlt)
    refine wpAny_pyNext_list_end hh S.hit hls (by rw [hi]; simp) fun h₂ hs₂ => ?_
    have hA := S.hA
    rw [show its'.take i = its' from by rw [hi, ← Array.length_toList, hZ, List.length_map]; exact List.take_length] at hA
    exact hQ ys _ m' (S.hX.change (a := I) hs₂ hoI (notCode_iter hoId) F.I98 F.I16 F.If) (S.hC'.at' fun o e => hs₂ _ o F.IC.symm e) (hs₂ _ _ F.ID.symm S.hD')
      (hA.mono fun a b ⟨sp, h1, h2, h3⟩ => ⟨sp, h1, fun q hq => hs₂ _ _ (h3 q hq).2.1 (h2 q hq), fun q hq => ⟨(h3 q hq).1, (h3 q hq).2.2.1⟩⟩)
set_option maxHeartbeats 1000000 in
theorem comp_core {γ : Type} {s : Shared} {elt iter : Expr} {x : Str} {px : Pos} {ifs : List Expr} {scope : Scope} {cl : List (Str × Addr)} {pos : Pos} {use : Option (Value → Sem Unit)} {Q : Value → Shared → Prop} (p : Value → Bool) (G : Value × γ → Value → List (Addr × Obj) → Prop)
    (hh : A.handled = none) (hclos : closureFor scope env = pure cl) (hcell : ∀ y ∈ scope.names, y.2 ≠ .cell) (hkind : scope.kind = .function)
    (hnames : ∀ y ∈ scope.names, y.2 = .local → scope.names.lookup y.1 = some .local) (hx : scope.names.lookup x = some .local)
    (h : wpAny (model P w) A (eval iter env) (fun xv s₁ => ∃ ax its its', xv = .ref ax ∧ its.toList = List.map Prod.fst its' ∧ s₁.heap.IsList ax its ∧ its.size ≤ sizeLine ∧ TI s₁.heap ∧ AllBare s₁.gens ∧
      (∀ C v s₂ m₂, v ∈ its.toList → s₂.heap.Ns C m₂ → m₂ x = some v → s₁.heap.objs.size ≤ C → Ext s₁ s₂ →
        wpAny (model P w) A (forIn ifs true fun c r => if r = true then do let ok ← isTrue c (compEnvC scope cl C env) (eval c (compEnvC scope cl C env)); pure (ForInStep.yield ok) else pure (ForInStep.yield r)) (fun ok s₃ => Parked (ok = p v ∧ KeepC C x v s₂ s₃)) (fun _ _ => False) s₂) ∧
      (∀ C (v : Value × γ) s₂ m₂, v ∈ its' → p v.1 = true → s₂.heap.Ns C m₂ → m₂ x = some v.1 → s₁.heap.objs.size ≤ C → Ext s₁ s₂ →
        wpAny (model P w) A (eval elt (compEnvC scope cl C env)) (fun y s₃ => Parked (ExtC C s₂ s₃ ∧ ∃ sp, G v y sp ∧ Supp s₃.heap sp ∧ ∀ q ∈ sp, FreshO s₂.heap q)) (fun _ _ => False) s₂) ∧
      (∀ D C ys s' m', s₁.heap.get? D = none → D ≠ 98 → D ≠ 16 → s₁.heap.get? C = none → C ≠ 98 → C ≠ 16 → D ≠ C → Ext s₁ s' → s'.heap.Ns C m' → s'.heap.get? D = some (lst ys) → All2 (fun v y => ∃ sp, G v y sp ∧ Supp s'.heap sp ∧ ∀ q ∈ sp, FreshO s₁.heap q ∧ q.1 ≠ C) (its'.filter fun v => p v.1) ys →
        compPost (model P w) A E use Q (.ref D) C (.ok .next) s')) E s)
    (hs : ∀ x, foldedSetIterable iter env x = pure x) :
    wpAny (model P w) A (comprehension (.ListComp elt [⟨.Name x px, iter, ifs, 0⟩] scope pos) scope env (firstIterPos [⟨.Name x px, iter, ifs, 0⟩] pos) (newList []) false (eval iter env) use) Q E s := by
  refine wpAny_comprehension_free rfl hs hclos hkind hnames (wpAny_mono h (fun xv s₁ h₁ => ?_) fun _ _ e => e)
  refine by_G fun G_ back_ => ?_
  obtain ⟨ax, its, its', rfl, hZ, hl, hsz, hT, hg, htest, helt, hQ⟩ := h₁
  refine back_ ?_
  clear back_ G_
  refine wpAny_pyIter_list hl ?_
  refine wpAny_newObj_type (wpAny_newFunctionEnv hcell (by intro y hy; simp at hy) (fun h₁ hns₁ hsb₁ => ?_) hkind)
  dsimp only at hns₁ hsb₁ ⊢
  have hti := ti_lt hT
  have hF : CFresh s₁ s₁.heap.objs.size (s₁.heap.objs.size + 1) (s₁.heap.objs.size + 2) := by
    obtain ⟨t1, t2⟩ := hti
    exact ⟨(by show @Ne Nat _ _; omega), (by show @Ne Nat _ _; omega), (by show @Ne Nat _ _; omega), Heap.get?_none_of_le (Nat.le_refl _), Heap.get?_none_of_le (Nat.le_succ _), Heap.get?_none_of_le (Nat.le_add_right _ 2), Nat.le_add_right _ 2,
      Nat.ne_of_gt t1, Nat.ne_of_gt t2, Nat.ne_of_gt (Nat.lt_succ_of_lt t1), Nat.ne_of_gt (Nat.lt_succ_of_lt t2), Nat.ne_of_gt (Nat.lt_add_right 2 t1), Nat.ne_of_gt (Nat.lt_add_right 2 t2)⟩
  have key : ∀ H1 H2 : Heap, H1 = s₁.heap.push { cls := .type "list_iterator", data := .fields #[.ref ax, .int 0 0] } → H2 = H1.push { cls := .type "list", dict := none, data := .seq ([] : List Value).toArray } → H1.objs.size = s₁.heap.objs.size + 1 ∧ H2.objs.size = s₁.heap.objs.size + 2 ∧
      H2.get? (s₁.heap.objs.size + 1) = some (lst []) ∧ H2.IsListIter s₁.heap.objs.size ax 0 ∧ ∀ b o, s₁.heap.get? b = some o → H2.get? b = some o := by
    rintro H1 H2 rfl rfl
    have e1 : (s₁.heap.push { cls := .type "list_iterator", data := .fields #[.ref ax, .int 0 0] }).objs.size = s₁.heap.objs.size + 1 := Heap.size_push ..
    refine ⟨e1, by rw [Heap.size_push, e1], by rw [← e1]; exact Heap.get?_push_size _ rfl, ⟨_, Heap.get?_push_of_some _ (Heap.get?_push_size _ rfl), rfl, rfl⟩, fun b o e => Heap.get?_push_of_some _ (Heap.get?_push_of_some _ e)⟩
  have key := key _ _ rfl rfl
  generalize (Heap.push _ _ : Heap).push { cls := .type "list", dict := none, data := .seq ([] : List Value).toArray } = H2 at key hns₁ hsb₁ ⊢
  generalize s₁.heap.push { cls := .type "list_iterator", data := .fields #[.ref ax, .int 0 0] } = H1 at key hns₁ hsb₁ ⊢
  obtain ⟨e1, e2, kD, kI, kO⟩ := key
  rw [e1]
  rw [e2] at hns₁ hsb₁ ⊢
  have eh1 : ∀ b o, H2.get? b = some o → h₁.get? b = some o := fun b o e => hsb₁.extBut b o (by rw [← e2]; exact Nat.ne_of_lt (Heap.lt_size e)) (Heap.get?_push_of_some _ e)
  have loop := comp_loop (elt := elt) (iter := iter) (px := px) (ifs := ifs) (cl := cl) (pos := pos) (env := env) (R := compPost (model P w) A E use Q (.ref (s₁.heap.objs.size + 1)) (s₁.heap.objs.size + 2)) p G hh hkind hx hF hZ hl hsz hT htest helt
    (fun ys s' m' X hn hD hA => hQ _ _ ys s' m' hF.Df hF.D98 hF.D16 hF.Cf hF.C98 hF.C16 hF.DC X hn hD hA)
    (s := { s₁ with heap := h₁, toks := s₁.toks + ([] : List (Str × Value)).length })
    ⟨Nat.zero_le _, Nat.le_refl _, (Ext.refl hT hg).keep fun b o e => eh1 _ _ (kO b o e), eh1 _ _ kD, hns₁, (let ⟨o, q, r⟩ := kI; ⟨o, eh1 _ _ q, r⟩), .nil⟩
  exact codeAny_compStart_list loop (wpAny_pyIter_listiter (let ⟨o, q, r⟩ := kI; ⟨o, eh1 _ _ q, r⟩) loop)
theorem unit_map (l : List Value) : l = List.map Prod.fst (l.map fun v => (v, ())) := by rw [List.map_map]; exact (List.map_id l).symm
theorem unit_mem {l : List Value} {v : Value × Unit} (h : v ∈ l.map fun v => (v, ())) : v.1 ∈ l := by obtain ⟨a, ha, rfl⟩ := List.mem_map.mp h; exact ha
theorem unit_all2 {p : Value → Bool} {R : Value → Value → Prop} {l ys : List Value} (h : All2 (fun (v : Value × Unit) y => R v.1 y) ((l.map fun v => (v, ())).filter fun v => p v.1) ys) : All2 R (l.filter p) ys := by
  induction l generalizing ys with
  | nil => cases h; exact .nil
  | cons a l ih =>
    rw [List.map_cons] at h
    cases hp : p a with
    | false => rw [List.filter_cons_of_neg (by simpa using hp)] at h; rw [List.filter_cons_of_neg (by simpa using hp)]; exact ih h
    | true => rw [List.filter_cons_of_pos (by simpa using hp)] at h; rw [List.filter_cons_of_pos hp]; cases h with | cons r q => exact .cons r (ih q)
set_option maxHeartbeats 1000000 in
theorem comp_list {s : Shared} {elt iter : Expr} {x : Str} {px : Pos} {ifs : List Expr} {scope : Scope} {cl : List (Str × Addr)} {pos : Pos} {Q : Value → Shared → Prop} (p : Value → Bool) (G : Value → Value → List (Addr × Obj) → Prop)
    (hh : A.handled = none) (hclos : closureFor scope env = pure cl) (hcell : ∀ y ∈ scope.names, y.2 ≠ .cell) (hkind : scope.kind = .function)
    (hnames : ∀ y ∈ scope.names, y.2 = .local → scope.names.lookup y.1 = some .local) (hx : scope.names.lookup x = some .local)
    (h : wpAny (model P w) A (eval iter env) (fun xv s₁ => ∃ ax its, xv = .ref ax ∧ s₁.heap.IsList ax its ∧ its.size ≤ sizeLine ∧ TI s₁.heap ∧ AllBare s₁.gens ∧
      (∀ C v s₂ m₂, v ∈ its.toList → s₂.heap.Ns C m₂ → m₂ x = some v → s₁.heap.objs.size ≤ C → Ext s₁ s₂ →
        wpAny (model P w) A (forIn ifs true fun c r => if r = true then do let ok ← isTrue c (compEnvC scope cl C env) (eval c (compEnvC scope cl C env)); pure (ForInStep.yield ok) else pure (ForInStep.yield r)) (fun ok s₃ => Parked (ok = p v ∧ KeepC C x v s₂ s₃)) (fun _ _ => False) s₂) ∧
      (∀ C v s₂ m₂, v ∈ its.toList → p v = true → s₂.heap.Ns C m₂ → m₂ x = some v → s₁.heap.objs.size ≤ C → Ext s₁ s₂ →
        wpAny (model P w) A (eval elt (compEnvC scope cl C env)) (fun y s₃ => Parked (ExtC C s₂ s₃ ∧ ∃ sp, G v y sp ∧ Supp s₃.heap sp ∧ ∀ q ∈ sp, FreshO s₂.heap q)) (fun _ _ => False) s₂) ∧
      (∀ D ys s', s₁.heap.get? D = none → D ≠ 98 → D ≠ 16 → Ext s₁ s' → s'.heap.get? D = some (lst ys) → All2 (fun v y => ∃ sp, G v y sp ∧ Supp s'.heap sp ∧ ∀ q ∈ sp, FreshO s₁.heap q) (its.toList.filter p) ys → Q (.ref D) s')) E s)
    (hs : ∀ x, foldedSetIterable iter env x = pure x := by intro _; rfl) :
    wpAny (model P w) A (eval (.ListComp elt [⟨.Name x px, iter, ifs, 0⟩] scope pos) env) Q E s := by
  rw [eval_ListComp]
  refine comp_core (γ := Unit) p (fun v => G v.1) hh hclos hcell hkind hnames hx (wpAny_mono h (fun xv s₁ h₁ => ?_) fun _ _ e => e) hs
  refine by_G fun G_ back_ => ?_
  obtain ⟨ax, its, rfl, hl, hsz, hT, hg, htest, helt, hQ⟩ := h₁
  refine back_ ?_
  clear back_ G_
  refine ⟨ax, its, its.toList.map fun v => (v, ()), rfl, unit_map _, hl, hsz, hT, hg, htest, fun C v s₂ m₂ hv hp => helt C v.1 s₂ m₂ (unit_mem hv) hp, fun D C ys s' m' hD n1 n2 hC c1 c2 hDC X hn hget hA => ⟨m', hn, fun h' hs' => ?_⟩⟩
  obtain ⟨oC, hoC, hoCn⟩ := notCode_ns hn
  replace hs' : Heap.SameBut C s'.heap h' := hs'
  exact hQ D ys _ hD n1 n2 (X.change (tk := s'.toks) (a := C) hs'.extBut hoC hoCn c1 c2 hC) (hs'.extBut _ _ hDC hget)
    ((unit_all2 (R := fun v y => ∃ sp, G v y sp ∧ Supp s'.heap sp ∧ ∀ q ∈ sp, FreshO s₁.heap q ∧ q.1 ≠ C) hA).mono fun a b ⟨sp, h1, h2, h3⟩ => ⟨sp, h1, fun q hq => hs'.extBut _ _ (h3 q hq).2 (h2 q hq), fun q hq => (h3 q hq).1⟩)
end
/-! a turn in K-form -/
noncomputable abbrev baseOf (h : Heap) : Heap := hideAll h [98, 16]
noncomputable abbrev restC (h₀ : Heap) (C : Addr) (h : Heap) : List (Addr × Obj) := ownOf h₀ ((List.range h.objs.size).filter (· ≠ C)) h
theorem base_get {h : Heap} {b : Addr} {o : Obj} (e : h.get? b = some o) (n1 : b ≠ 98) (n2 : b ≠ 16) : (baseOf h).get? b = some o := hideAll_get _ e (by intro q; rcases List.mem_cons.mp q with q | q; exact n1 q; exact n2 (List.mem_singleton.mp q))
theorem turn_start {s₁ s₂ : Shared} {C : Addr} {m₂ : Str → Option Value} (X : Ext s₁ s₂) (hC : s₂.heap.Ns C m₂) (hCs : s₁.heap.objs.size ≤ C) : Fr (baseOf s₁.heap) C s₂.heap m₂ ∧ News (baseOf s₁.heap) C s₂.heap (restC (baseOf s₁.heap) C s₂.heap) := by
  refine ⟨⟨hC, fun b o e => X.get b o (fun z => ?_) (fun z => ?_) (of_hideAll _ e), by rw [hideAll_size]; exact hCs⟩, news_ownOf fun q => by simpa using (List.mem_filter.mp q).2⟩
  · rw [z, hideAll_none _ (.head _)] at e; cases e
  · rw [z, hideAll_none _ (.tail _ (.head _))] at e; cases e
theorem turn_end {s₂ : Shared} {h₀ h' : Heap} {C : Addr} {m m' : Str → Option Value} {x : Str} {v : Value} {tk : Nat} (F : Fr h₀ C s₂.heap m) (F' : Fr h₀ C h' m') (N' : News h₀ C h' (restC h₀ C s₂.heap)) (hm : m' x = some v) : KeepC C x v s₂ { s₂ with heap := h', toks := tk } :=
  ⟨h', tk, m', rfl, keep_rest F F' N', F'.ns, hm⟩
theorem KeepC.extC {s₂ s₃ : Shared} {C : Addr} {x : Str} {v : Value} {m : Str → Option Value} (k : KeepC C x v s₂ s₃) (hT : TI s₂.heap) (hg : AllBare s₂.gens) (hn : s₂.heap.Ns C m) (n1 : C ≠ 98) (n2 : C ≠ 16) : ExtC C s₂ s₃ := by
  obtain ⟨h, tk, m', rfl, k, hn', _⟩ := k
  obtain ⟨oC, e, nc⟩ := notCode_ns hn
  exact ⟨h, tk, s₂.gens, m', rfl, fun b o hb _ _ e => k b o hb e, hn', hT.change k e nc n1 n2, hg⟩
end
-- D2
section
open PyProof.Rows.LCg (lst lst_snoc)
/-! a list comprehension over a generator: [x for x in gen] -/
theorem gens_bare {g : Nat} {a b : Array GenState} (x : GenOnly g a b) (hf : b[g]? = some .finished) (ha : ∀ k, k ≠ g → ∀ y, a[k]? = some y → y.bare = true) : AllBare b := fun y hy => by
  obtain ⟨k, hk, e⟩ := Array.mem_iff_getElem.mp hy
  have e' : b[k]? = some y := by rw [Array.getElem?_eq_some_iff]; exact ⟨hk, e⟩
  by_cases q : k = g
  · rw [q, hf] at e'; cases e'; rfl
  · rw [x.2 k q] at e'; exact ha k q y e'
section
variable {w : World} {A : Around} {E : Value → Shared → Prop} {env : Env}
set_option maxHeartbeats 1000000 in
theorem comp_gen {s : Shared} {iter : Expr} {x : Str} {px pe : Pos} {scope : Scope} {pos : Pos} {Q : Value → Shared → Prop}
    (hh : A.handled = none) (hroom : A.depth < recursionLimit) (hfree : ∀ y ∈ scope.names, y.2 ≠ .free) (hcell : ∀ y ∈ scope.names, y.2 ≠ .cell) (hkind : scope.kind = .function)
    (hnames : ∀ y ∈ scope.names, y.2 = .local → scope.names.lookup y.1 = some .local) (hx : scope.names.lookup x = some .local) (hdb : (x == ("__debug__" : Str)) = false)
    (h : wpAny (model P w) A (eval iter env) (fun xv s₁ => ∃ a g h₀ C' ys, xv = .ref a ∧ GenY w A h₀ C' a g ys 0 s₁ ∧ h₀.NoLimit ∧ a ≠ C' ∧ h₀.get? C' = none ∧ C' < s₁.heap.objs.size ∧ ys.length ≤ sizeLine ∧
      (∀ D s', s₁.heap.get? D = none → (∃ h tk gs, s' = { s₁ with heap := h, toks := tk, gens := gs } ∧ GenOnly g s₁.gens gs ∧ gs[g]? = some .finished ∧ ∀ b o, h₀.get? b = some o → h.get? b = some o) → s'.heap.get? D = some (lst (ys.map Value.ref)) → Q (.ref D) s')) E s)
    (hs : ∀ x, foldedSetIterable iter env x = pure x := by intro _; rfl) :
    wpAny (model P w) A (eval (.ListComp (.Name x pe) [⟨.Name x px, iter, [], 0⟩] scope pos) env) Q E s := by
  refine wpAny_ListComp hfree hkind hnames (wpAny_mono h (fun xv s₁ h₁ => ?_) fun _ _ e => e) hs
  refine by_G fun G_ back_ => ?_
  obtain ⟨a, g, h₀, C', ys, rfl, hG, hlim, haC, hC0, hC's, hsz, hQ⟩ := h₁
  refine back_ ?_
  clear back_ G_
  refine wpAny_pyIter_gen hG.1 ?_
  refine wpAny_newObj_type (wpAny_newFunctionEnv hcell (by intro y hy; simp at hy) (fun h₁ hns₁ hsb₁ => ?_) hkind)
  dsimp only at hns₁ hsb₁ ⊢
  generalize hH2 : s₁.heap.push { cls := .type "list", dict := none, data := .seq ([] : List Value).toArray } = H2 at hns₁ hsb₁ ⊢
  have hC : H2.objs.size = s₁.heap.objs.size + 1 := by rw [← hH2, Heap.size_push]
  replace hC's : @LT.lt Nat _ C' s₁.heap.objs.size := hC's
  generalize hD' : s₁.heap.objs.size = D at hC hC's
  have eH2 : ∀ b o, s₁.heap.get? b = some o → H2.get? b = some o := fun b o e => hH2 ▸ Heap.get?_push_of_some _ e
  have eh1 : ∀ b o, H2.get? b = some o → h₁.get? b = some o := fun b o e => hsb₁.extBut b o (Nat.ne_of_lt (Heap.lt_size e)) (Heap.get?_push_of_some _ e)
  have hDC : D ≠ H2.objs.size := by omega
  have hgetD : h₁.get? D = some (lst []) := eh1 _ _ (by rw [← hH2, ← hD']; exact Heap.get?_push_size _ rfl)
  have old : ∀ b o, s₁.heap.get? b = some o → h₁.get? b = some o := fun b o e => eh1 _ _ (eH2 _ _ e)
  have hDf : s₁.heap.get? D = none := Heap.get?_none_of_le (Nat.le_of_eq hD')
  have hCf : s₁.heap.get? H2.objs.size = none := Heap.get?_none_of_le (by omega)
  have hCC' : @Ne Nat H2.objs.size C' := by omega
  have hDC' : @Ne Nat D C' := by omega
  clear eh1 eH2 hsb₁ hC
  generalize H2.objs.size = C at *
  clear hH2
  have h0D : h₀.get? D = none := by
    cases q : h₀.get? D with
    | none => rfl
    | some o => have := hG.2.1 _ _ q; rw [hDf] at this; cases this
  have h0C : h₀.get? C = none := by
    cases q : h₀.get? C with
    | none => rfl
    | some o => have := hG.2.1 _ _ q; rw [hCf] at this; cases this
  have haD : D ≠ a := by
    refine by_G fun G_ back_ => ?_
    obtain ⟨o, nm, qn, ho, _⟩ := hG.1
    refine back_ ?_
    clear back_ G_
    intro z; rw [z, ho] at hDf; cases hDf
  have haC2 : C ≠ a := by
    refine by_G fun G_ back_ => ?_
    obtain ⟨o, nm, qn, ho, _⟩ := hG.1
    refine back_ ?_
    clear back_ G_
    intro z; rw [z, ho] at hCf; cases hCf
  have liD : ∀ zs, ¬ LI (lst zs) := fun zs q => by obtain ⟨_, vs, e⟩ := q; cases e
  have liN : ∀ {h : Heap} {m : Str → Option Value} {o : Obj}, h.Ns C m → h.get? C = some o → ¬ LI o := fun x e q => by
    refine by_G fun G_ back_ => ?_
    obtain ⟨o', es, ep, e', hd, _⟩ := x
    refine back_ ?_
    clear back_ G_
    rw [e] at e'; cases e'
    refine by_G fun G_ back_ => ?_
    obtain ⟨_, vs, e2⟩ := q
    refine back_ ?_
    clear back_ G_
    rw [hd] at e2; cases e2
  have hG₁ : GenY w A h₀ C' a g ys 0 { s₁ with heap := h₁, toks := s₁.toks + ([] : List (Str × Value)).length } := hG.keep rfl fun b o _ e => old b o e
  have loop : codeAny (model P w) A (.compLoop (.ListComp (.Name x pe) [⟨.Name x px, iter, [], 0⟩] scope pos) 0 (.ref a) (.ref D) (compEnv scope C env))
      (fun r s' => ∃ m, s'.heap.Ns C m ∧ ∀ h', Heap.SameBut C s'.heap h' → match r with | .ok _ => Q (.ref D) { s' with heap := h' } | .error x => wpAny (model P w) A (passOn "comprehension.variables-let-go" x (compEnv scope C env)) Q E { s' with heap := h' })
      { s₁ with heap := h₁, toks := s₁.toks + ([] : List (Str × Value)).length } := by
    refine codeAny_compLoop_list (fun k s' => ∃ i m', i ≤ ys.length ∧ k = ys.length + 1 - i ∧ (∃ h tk gs, s' = { s₁ with heap := h, toks := tk, gens := gs } ∧ GenOnly g s₁.gens gs) ∧ s'.heap.get? D = some (lst ((ys.take i).map Value.ref)) ∧ s'.heap.Ns C m' ∧ GenY w A h₀ C' a g ys i s') ?_ (ys.length + 1)
      ⟨0, _, Nat.zero_le _, rfl, ⟨_, _, _, rfl, rfl, fun _ _ => rfl⟩, hgetD, hns₁, hG₁⟩
    intro k s' hpat1
    refine by_G fun G_ back_ => ?_
    obtain ⟨i, m', hi, rfl, ⟨hS, tkS, gsS, rfl, hgo⟩, hD₂, hC₂, hG₂⟩ := hpat1
    refine back_ ?_
    clear back_ G_
    by_cases hlt : i < ys.length
    · obtain ⟨e, he⟩ : ∃ e, ys[i]? = some e := ⟨ys[i], by simp [hlt]⟩
      refine gen_item hh hroom hlim haC hC0 he hG₂ fun s₃ hn hG₃ => ?_
      refine by_G fun G_ back_ => ?_
      obtain ⟨h₃, tk₃, gs₃, rfl, hgo₃, k₃⟩ := hn
      refine back_ ?_
      clear back_ G_
      have hC₃ : h₃.Ns C m' := hC₂.at' fun o e => k₃ _ _ hCC' (.inr (liN hC₂ e)) e
      have hD₃ : h₃.get? D = some (lst ((ys.take i).map Value.ref)) := k₃ _ _ hDC' (.inr (liD _)) hD₂
      refine wpAny_assign_Name (wpAny_storeName_local hx hC₃ (fun h₄ hn₄ hs₄ => ?_) (by show (scope.kind == .class || (scope.kind == .module && _)) = false; rw [hkind]; rfl))
      replace hs₄ : Heap.SameBut C h₃ h₄ := hs₄
      replace hn₄ : h₄.Ns C _ := hn₄
      refine wpAny_Name (wpAny_loadName_local hkind hx hn₄ (if_pos rfl) ?_) hdb
      have hG₄ : GenY w A h₀ C' a g ys (i + 1) { s₁ with heap := h₄, toks := tk₃ + 1, gens := gs₃ } := hG₃.keep rfl fun b o hb e => hs₄.extBut b o (fun z => by
        subst z
        rcases hb with q | q | q | q
        · rw [h0C] at q; cases q
        · exact hCC' q
        · exact haC2 q
        · exact liN hC₃ e q) e
      have hD₄ := hs₄.extBut _ _ hDC hD₃
      refine append_at (hsz := by show ((ys.take i).map Value.ref).toArray.size ≤ sizeLine; rw [List.size_toArray, List.length_map, List.length_take]; exact Nat.le_trans (Nat.min_le_right _ _) hsz) hD₄ fun h₅ hs₅ hD₅ => ?_
      replace hs₅ : Heap.SameBut D h₄ h₅ := hs₅
      refine ⟨ys.length + 1 - (i + 1), by omega, i + 1, _, hlt, rfl, ⟨h₅, _, gs₃, rfl, hgo.trans hgo₃⟩, ?_, hn₄.at' fun o e => hs₅.extBut _ _ (Ne.symm hDC) e, hG₄.keep rfl fun b o hb e => hs₅.extBut b o (fun z => ?_) e⟩
      · have ht : ys.take (i + 1) = ys.take i ++ [e] := by rw [List.take_add_one, he]; rfl
        rw [ht, List.map_append]
        exact hD₅.trans (congrArg some (lst_snoc _ _))
      · subst z
        rcases hb with q | q | q | q
        · rw [h0D] at q; cases q
        · exact hDC' q
        · exact haD q
        · rw [hD₄] at e; cases e; exact liD _ q
    · refine by_G fun G_ back_ => ?_
      obtain rfl : i = ys.length := Nat.le_antisymm hi (Nat.not_lt.mp hlt)
      refine back_ ?_
      clear back_ G_
      refine gen_done hh hroom hlim hG₂ fun s₃ hn hfin => ?_
      refine by_G fun G_ back_ => ?_
      obtain ⟨h₃, tk₃, gs₃, rfl, hgo₃, k₃⟩ := hn
      refine back_ ?_
      clear back_ G_
      have hC₃ : h₃.Ns C m' := hC₂.at' fun o e => k₃ _ _ hCC' (.inr (liN hC₂ e)) e
      refine ⟨m', hC₃, fun h₄ hs₄ => ?_⟩
      replace hs₄ : Heap.SameBut C h₃ h₄ := hs₄
      refine hQ D _ hDf ⟨h₄, tk₃, gs₃, rfl, hgo.trans hgo₃, hfin, fun b o e => hs₄.extBut _ _ (fun z => by rw [z, h0C] at e; cases e) (k₃ _ _ (fun z => by rw [z, hC0] at e; cases e) (.inl e) (hG₂.2.1 _ _ e))⟩ (hs₄.extBut _ _ hDC ?_)
      rw [List.take_length] at hD₂
      exact k₃ _ _ hDC' (.inr (liD _)) hD₂
  exact codeAny_compStart_list loop (wpAny_pyIter_gen hG₁.1 loop)
end
end
-- T1
section
open PyProof.Rows.LCg (lst lst_snoc)

theorem lines_T1_1 : True := by
  k_with_none
  k_with "mine in" => ((case k6 => k_is); (case k7 => k_is); (case k8 => decide); (case k9 => exact BindsTo.of_eq rfl); (case kB => exact locs rfl); (case c2 => exact rfl); (case c3 => exact rfl); (case c4 => exact rfl); (case c5 => decide))
  k_with "eval ListComp" => refine park ?_
  k_with "call ref" => refine park ?_
  trivial
noncomputable def FnK (h₀ : Heap) (f : Addr) : Prop := ∀ h, (∀ b o, h₀.get? b = some o → h.get? b = some o) → FnAt f h
theorem FnK.at {h₀ h : Heap} {f L : Addr} {m : Str → Option Value} (x : FnK h₀ f) (F : Fr h₀ L h m) : FnAt f h := x h F.keep
theorem lines_T1_2 : True := by
  k_with "callWith ref" => (k_here; k_dflt (refine' callWith_F ?zqk1 ?_; (case zqk1 => exact FnK.at (by assumption) (by k_asm))))
  k_with "FnAt" => (k_dflt (exact FnK.at (by assumption) (by k_asm)))
  trivial
noncomputable def KeepsG (s s' : Shared) : Prop := ∃ h tk gs, s' = { s with heap := h, toks := tk, gens := gs } ∧ (∀ b o, s.heap.get? b = some o → h.get? b = some o) ∧ AllBare gs
noncomputable def ListPost (s : Shared) (zs : List Value) (v : Value) (s' : Shared) : Prop := ∃ D, v = .ref D ∧ s.heap.get? D = none ∧ s'.heap.get? D = some (lst zs) ∧ KeepsG s s'
set_option maxHeartbeats 1000000 in
theorem c_through0 {w : World} {s : Shared} {mg mb : Str → Option Value} (B : Bs w mg mb s.heap) (hg : AllBare s.gens) {f l : Addr} {sp : List (Addr × Obj)} {tst : Value → Bool} (S : SieveOK w mg mb sp f okTag tst) (hS : Supp s.heap sp)
    {es : List Addr} {tg : Addr → Value} (hl : s.heap.IsList l (es.map Value.ref).toArray) (hel : ∀ e ∈ es, ∃ p, Elem s.heap e p (tg e)) (hok : ∀ e ∈ es, okTag (tg e)) (hlen : es.length ≤ 100) :
    wpAny (model P w) (AA 5) (call (.ref 108) [.ref f, .ref l]) (ListPost s ((es.filter fun e => tst (tg e)).map Value.ref)) (fun _ _ => False) s := by
  have hfa : FnK s.heap f := fun h k => S.1 h fun q hq => k _ _ (hS q hq)
  have X := B.x
  refine by_G fun G_ back_ => ?_
  obtain ⟨loose, mean, T⟩ := B.t
  refine back_ ?_
  clear back_ G_
  refine wpAny_call ?_
  refine' enterK (binds := [(Str.ofString "sieve", .ref f), (Str.ofString "elements", .ref l)]) X T.nolimit ?k6 ?k7 ?k8 ?k9 ?kB ?_ ?c2 ?c3 ?c4 ?c5
  walk_at "mine in"
  intro h₁ F
  have N : News s.heap s.heap.objs.size h₁ [] := News.nil
  (try dsimp only)
  (try k_fold)
  k_steps
  refine comp_gen (by rfl) (Nat.lt_of_succ_le (Nat.le_of_ble_eq_true rfl)) (by decide) (by decide) rfl (by decide) rfl (by decide) ?_
  k_steps
  refine' S.2 _ _ _ es tg _ _ ?a ?b ?hh ?c ?d ?e ?f hok ?_
  case hh => rfl
  case a => exact fun q hq => F.keep _ _ (hS q hq)
  case b => exact B.keeps F.keep
  case c => exact Nat.le_of_ble_eq_true rfl
  case d => exact Nat.le_of_ble_eq_true rfl
  case e => exact let ⟨o, ho, r⟩ := hl; ⟨o, F.keep _ _ ho, r⟩
  case f => exact fun e he => let ⟨p, hE⟩ := hel e he; ⟨p, hE.but fun b o _ _ q => F.keep b o q⟩
  intro C a h' tk gs hC ha hac hk hCs hG
  refine ⟨a, _, _, C, _, rfl, hG _ rfl (Nat.le_of_ble_eq_true rfl) (Nat.le_of_ble_eq_true rfl), (T.keeps F.keep).nolimit, hac, hC, hCs, Nat.le_trans (List.length_filter_le _ _) (Nat.le_trans hlen (by decide)), ?_⟩
  intro D s' hD hpat1 hDl
  refine by_G fun G_ back_ => ?_
  obtain ⟨h₂, tk₂, gs₂, rfl, hgo, hfin, hkeep⟩ := hpat1
  refine back_ ?_
  clear back_ G_
  refine ⟨D, rfl, ?_, hDl, h₂, tk₂, gs₂, rfl, fun b o e => hkeep _ _ (F.keep _ _ e), gens_bare hgo hfin fun k hk y hy => ?_⟩
  · cases q : s.heap.get? D with
    | none => rfl
    | some o => have := hk _ _ (F.keep _ _ q); rw [show h'.get? D = none from hD] at this; cases this
  · replace hk : k ≠ s.gens.size := hk
    replace hy : (s.gens.push gs)[k]? = some y := hy
    rw [Array.getElem?_push, if_neg hk] at hy
    exact hg y (Array.mem_of_getElem? hy)
end
-- T2
section
open PyProof.Rows.LCg (lst lst_snoc)
theorem lines_T2_1 : True := by
  k_with_none
  k_with "mine in" => ((case k6 => k_is); (case k7 => k_is); (case k8 => decide); (case k9 => exact BindsTo.of_eq rfl); (case kB => exact locs rfl); (case c2 => exact rfl); (case c3 => exact rfl); (case c4 => exact rfl); (case c5 => decide))
  k_with "eval ListComp" => refine park ?_
  trivial
section
variable {M : Model} {A : Around} {E : Value → Shared → Prop} {s : Shared} {h₀ : Heap} {C : Addr} {m : Str → Option Value} {scope : Scope} {cl : List (Str × Addr)} {env : Env} {x : Str} {pos : Pos} {v : Value} {Q : Value → Shared → Prop}
/-- a comprehension's own name -/
theorem own_C (F : Fr h₀ C s.heap m) (hx : m x = some v) (h : Q v s) (hk : (compEnvC scope cl C env).scope.kind = .function := by rfl) (hl : (compEnvC scope cl C env).kindOf x = some .local := by rfl) (hd : (x == ("__debug__" : Str)) = false := by decide) :
    wpAny M A (eval (.Name x pos) (compEnvC scope cl C env)) Q E s := ldVarK F.ns hx h hk hl hd
theorem cell_C {c : Addr} {o : Obj} (F : Fr h₀ C s.heap m) (hc : cl.lookup x = some c) (hm : h₀.get? c = some o) (hd : o.data = .cell (some v)) (h : Q v s) (hk : (compEnvC scope cl C env).scope.kind = .function := by rfl) (hx : (compEnvC scope cl C env).kindOf x = some .cell := by rfl) (hb : (x == ("__debug__" : Str)) = false := by decide) :
    wpAny M A (eval (.Name x pos) (compEnvC scope cl C env)) Q E s := wpAny_Name (wpAny_loadName_cell hk hx hc ⟨o, F.keep _ _ hm, hd⟩ h) hb
end
theorem get_pl {prog : Program} {w : World} {A : Around} {E : Value → Shared → Prop} {s : Shared} {h₀ : Heap} {L : Addr} {m : Str → Option Value} {Q : Value → Shared → Prop} {name : Str} {e : Addr} {p v : Value} {ex : Bool} (F : Fr h₀ L s.heap m) (x : Elem h₀ e p v) (hn : name = Str.ofString "place") (hh : handedOut p = pure p) (h : Q p { s with toks := s.toks + 1 }) :
    wpAny (model prog w) A (getAttr (.ref e) name ex) Q E s := by
  subst hn
  obtain ⟨fd, dx, od, mA, h1, h2, h3, h4, h5, _⟩ := x.ex
  exact getAttr_fn lk_fn_place (F.keep _ _ h1) (h3 _ _ (F.keep _ _ h2)).ns h4 hh h
theorem lines_T2_2 : True := by
  k_with "eval Name" => (k_here; k_dflt (refine own_C (by k_asm) (by assumption) ?_))
  k_with "getAttr ref" => (k_here; k_dflt (refine' get_pl ?zqF ?zqx ?zqn ?zqhh ?_; (case zqF => k_asm); (case zqx => assumption); (case zqn => exact rfl); (case zqhh => exact rfl)))
  trivial
noncomputable def ListExt (s : Shared) (zs : List Value) (v : Value) (s' : Shared) : Prop := ∃ D, v = .ref D ∧ s.heap.get? D = none ∧ D ≠ 98 ∧ D ≠ 16 ∧ s'.heap.get? D = some (lst zs) ∧ Ext s s'
theorem all2_map {α : Type} {es : List α} {f : α → Value} {r : α → Value} (hinj : ∀ a b, f a = f b → r a = r b) : ∀ {as : List α} {ys : List Value}, (∀ a ∈ as, a ∈ es) → All2 (fun v y => ∃ e ∈ es, v = f e ∧ y = r e) (as.map f) ys → ys = as.map r
  | [], _, _, h => by cases h; rfl
  | a :: as, _, hm, h => by
    cases h with
    | cons q t =>
      obtain ⟨e, _, h1, rfl⟩ := q
      rw [all2_map hinj (fun b hb => hm b (.tail _ hb)) t, List.map_cons, hinj _ _ h1]
set_option maxHeartbeats 1000000 in
theorem c_places0 {w : World} {s : Shared} {g : Heap} {mg mb : Str → Option Value} (B : Bs w mg mb g) (kg : ∀ b o, g.get? b = some o → s.heap.get? b = some o) (n98 : g.get? 98 = none) (n16 : g.get? 16 = none) (hT : TI s.heap) (hg : AllBare s.gens)
    {l : Addr} {es : List Addr} {pl : Addr → Value} (hl : s.heap.IsList l (es.map Value.ref).toArray) (hel : ∀ e ∈ es, ∃ t, Elem s.heap e (pl e) t) (hi : ∀ e ∈ es, ∃ k t, pl e = .int k t) (hlen : es.length ≤ 100) :
    wpAny (model P w) (AA 5) (call (.ref 113) [.ref l]) (ListExt s (es.map pl)) (fun _ _ => False) s := by
  have kgb : ∀ b o, g.get? b = some o → (baseOf s.heap).get? b = some o := fun b o e => base_get (kg b o e) (fun z => by rw [z, n98] at e; cases e) (fun z => by rw [z, n16] at e; cases e)
  have B' : Bs w mg mb (baseOf s.heap) := B.keeps kgb
  have X := B'.x
  refine by_G fun G_ back_ => ?_
  obtain ⟨loose, mean, T⟩ := B'.t
  refine back_ ?_
  clear back_ G_
  refine wpAny_call ?_
  refine' enterG (g := baseOf s.heap) (binds := [(Str.ofString "elements", .ref l)]) X T.nolimit (fun b o e => of_hideAll _ e) (Nat.le_of_eq (hideAll_size _ _)) ?k6 ?k7 ?k8 ?k9 ?kB ?_ ?c2 ?c3 ?c4 ?c5
  walk_at "mine in"
  intro h₁ F kk
  have N : News (baseOf s.heap) s.heap.objs.size h₁ [] := News.nil
  (try dsimp only)
  (try k_fold)
  k_steps
  refine comp_list (fun _ => true) (fun v y sp => sp = [] ∧ ∃ e ∈ es, v = .ref e ∧ y = pl e) rfl rfl (by decide) rfl (by decide) rfl ?_
  refine nameX_L F rfl ?_
  refine ⟨l, _, rfl, let ⟨o, ho, r⟩ := hl; ⟨o, kk _ _ ho, r⟩, ?_, hT.keeps kk, hg, ?_, ?_, ?_⟩
  · rw [List.size_toArray, List.length_map]; exact Nat.le_trans hlen (by decide)
  · intro C v s₂ m₂ hv hn hm hCs X₂
    exact wpAny_tests_nil ⟨rfl, _, _, _, rfl, fun _ _ _ e => e, hn, hm⟩
  · intro C v s₂ m₂ hv _ hn hm hCs X₂
    refine by_G fun G_ back_ => ?_
    obtain ⟨F₂, N₂⟩ := turn_start X₂ hn hCs
    refine back_ ?_
    clear back_ G_
    rw [List.mem_map] at hv
    refine by_G fun G_ back_ => ?_
    obtain ⟨e, he, rfl⟩ := hv
    obtain ⟨tg, hE⟩ := hel e he
    obtain ⟨k, tk, hkt⟩ := hi e he
    refine back_ ?_
    clear back_ G_
    rw [hkt] at hE
    have hE' : Elem (baseOf h₁) e (.int k tk) tg := hE.but fun b o n1 n2 q => base_get (kk _ _ q) n1 n2
    have B₂ : Bs w mg mb (baseOf h₁) := B.keeps fun b o e => base_get (kk _ _ (kg b o e)) (fun z => by rw [z, n98] at e; cases e) (fun z => by rw [z, n16] at e; cases e)
    clear F N T X
    have X := B₂.x
    refine by_G fun G_ back_ => ?_
    obtain ⟨loose, mean, T⟩ := B₂.t
    refine back_ ?_
    clear back_ G_
    k_steps
    refine ⟨KeepC.extC (turn_end F₂ (by assumption) (by assumption) hm) X₂.ti X₂.bare hn ?_ ?_, [], ⟨rfl, e, he, rfl, hkt.symm⟩, (fun q hq => by cases hq), (fun q hq => by cases hq)⟩
    · exact Nat.ne_of_gt (Nat.lt_of_lt_of_le (ti_lt (hT.keeps kk)).1 hCs)
    · exact Nat.ne_of_gt (Nat.lt_of_lt_of_le (ti_lt (hT.keeps kk)).2 hCs)
  · intro D ys s' hD hD98 hD16 X₂ hget hall
    refine ⟨D, rfl, ?_, hD98, hD16, ?_, ?_⟩
    · cases q : s.heap.get? D with
      | none => rfl
      | some o => have := kk _ _ q; rw [show h₁.get? D = none from hD] at this; cases this
    · rw [show (es.map Value.ref).toArray.toList = es.map Value.ref from rfl, List.filter_eq_self.mpr (fun _ _ => rfl)] at hall
      have := all2_map (es := es) (f := Value.ref) (r := pl) (fun a b h => by cases h; rfl) (as := es) (fun _ h => h) (hall.mono fun v y ⟨sp, ⟨_, h⟩, _⟩ => h)
      rw [← this]; exact hget
    · refine by_G fun G_ back_ => ?_
      obtain ⟨h2, tk2, gs2, rfl, k2, t2, g2⟩ := X₂
      refine back_ ?_
      clear back_ G_
      exact ⟨h2, tk2, gs2, rfl, fun b o n1 n2 e => k2 b o n1 n2 (kk _ _ e), t2, g2⟩
end
-- T3
section
open PyProof.Rows.LCg (lst lst_snoc)
section
variable {prog : Program} {w : World} {A : Around} {s : Shared} {env : Env} {h₀ : Heap}
/-- «for x in list: ..» over a list of the base -/
theorem for_list {E : Value → Shared → Prop} {Q : Flow → Shared → Prop} {x : Str} {px pos : Pos} {iter : Expr} {body : List Stmt} {m : Str → Option Value} {news : List (Addr × Obj)} {ax : Addr} {its : Array Value}
    (Inv : Nat → (Str → Option Value) → List (Addr × Obj) → Prop)
    (hh : A.handled = none) (hx : env.kindOf x = some .local)
    (hp : (env.scope.kind == .class || (env.scope.kind == .module && env.locals != env.globals)) = false)
    (F : Fr h₀ env.locals s.heap m) (N : News h₀ env.locals s.heap news) (hl : h₀.IsList ax its)
    (hev : ∀ (Q' : Value → Shared → Prop) (E' : Value → Shared → Prop), Q' (.ref ax) s → wpAny (model prog w) A (eval iter env) Q' E' s)
    (h0 : Inv 0 m news)
    (turn : ∀ i v m₁ nw I oI h tk, its[i]? = some v → Inv i m₁ nw → (∀ q ∈ nw, q.1 ≠ I) → Fr h₀ env.locals h (fun y => if y = x then some v else m₁ y) → News h₀ env.locals h (nw ++ [(I, oI)]) →
      wpAny (model prog w) A (execs body env) (fun f s' => Parked (f = .next ∧ ∃ h' tk' m' nw', s' = { s with heap := h', toks := tk' } ∧ Inv (i + 1) m' nw' ∧ (∀ q ∈ nw', q.1 ≠ I) ∧ Fr h₀ env.locals h' m' ∧ News h₀ env.locals h' (nw' ++ [(I, oI)])))
        (fun _ _ => False) { s with heap := h, toks := tk })
    (fin : ∀ h tk m₁ nw, Inv its.size m₁ nw → Fr h₀ env.locals h m₁ → News h₀ env.locals h nw → Q .next { s with heap := h, toks := tk })
    (hs : ∀ x, foldedSetIterable iter env x = pure x) :
    wpAny (model prog w) A (exec (.For (.Name x px) iter body [] pos) env) Q E s := by
  have hrs : s.heap.IsList ax its := let ⟨o, ho, r⟩ := hl; ⟨o, F.keep _ _ ho, r⟩
  refine wpAny_For (hev _ _ ?_) hs
  refine wpAny_pyIter_list hrs ?_
  have hLlt : env.locals < s.heap.objs.size := F.ns.lt
  have hIn : h₀.get? s.heap.objs.size = none := next_is_new F
  have hnl : ∀ q ∈ news, q.1 ≠ s.heap.objs.size := fun q hq => Nat.ne_of_lt (Heap.lt_size (N q hq).1)
  generalize hI : s.heap.objs.size = I at *
  refine codeAny_forLoop_any
    (fun k s' => ∃ j h tk m₁ nw, j ≤ its.size ∧ k = its.size - j ∧ s' = { s with heap := h, toks := tk } ∧ Inv j m₁ nw ∧ (∀ q ∈ nw, q.1 ≠ I) ∧
      Fr h₀ env.locals h m₁ ∧ News h₀ env.locals h nw ∧ h.IsListIter I ax j) ?_ its.size
    ⟨0, _, _, m, news, Nat.zero_le _, rfl, rfl, h0, hnl, F.push _, fun p hp => ⟨Heap.get?_push_of_some _ (N p hp).1, (N p hp).2⟩, ⟨_, by rw [← hI]; exact Heap.get?_push_size _ rfl, rfl, rfl⟩⟩
  intro k s' hpat1
  refine by_G fun G_ back_ => ?_
  obtain ⟨j, h, tk, m₁, nw, hj, rfl, rfl, hInv, hoff, F₁, N₁, hit⟩ := hpat1
  refine back_ ?_
  clear back_ G_
  have hl₁ : h.IsList ax its := let ⟨o, ho, r⟩ := hl; ⟨o, F₁.keep _ _ ho, r⟩
  cases hq : its[j]? with
  | none =>
    refine by_G fun G_ back_ => ?_
    obtain rfl : j = its.size := Nat.le_antisymm hj (by simpa using hq)
    refine back_ ?_
    clear back_ G_
    refine wpAny_pyNext_list_end hh hit hl₁ hq fun h' hx => ?_
    refine wpAny_pure (fin h' tk m₁ nw hInv ⟨F₁.ns.at' fun o e => hx _ o (Nat.ne_of_lt hLlt) e, fun b o e => hx b o (fun q => by rw [q, hIn] at e; cases e) (F₁.keep b o e), F₁.above⟩ fun p hp => ⟨hx _ _ (hoff p hp) (N₁ p hp).1, (N₁ p hp).2⟩)
  | some v =>
    have hjlt : j < its.size := (Array.getElem?_eq_some_iff.mp hq).1
    refine wpAny_pyNext_list_item hit hl₁ hq fun h₂ hit₂ hs₂ => ?_
    replace hs₂ : Heap.SameBut I h h₂ := hs₂
    refine wpAny_of_eq (rfl : letOwnedTupleGo (.Name x px) (.ref I) v = pure ()) ?_
    have hF₂ : Fr h₀ env.locals h₂ m₁ := ⟨F₁.ns.at' fun o e => hs₂.extBut _ o (Nat.ne_of_lt hLlt) e, fun b o e => hs₂.extBut b o (fun q => by rw [q, hIn] at e; cases e) (F₁.keep b o e), F₁.above⟩
    have hN₂ : News h₀ env.locals h₂ nw := fun p hp => ⟨hs₂.extBut _ _ (hoff p hp) (N₁ p hp).1, (N₁ p hp).2⟩
    refine by_G fun G_ back_ => ?_
    obtain ⟨oI, hoI, hoc, hod⟩ := hit₂
    refine back_ ?_
    clear back_ G_
    refine wpAny_assign_Name (wpAny_storeName_local hx hF₂.ns (fun h₄ hn₄ hs₄ => ?_) hp)
    replace hs₄ : Heap.SameBut env.locals h₂ h₄ := hs₄
    have F₄ := hF₂.set hn₄ hs₄
    have N₄ : News h₀ env.locals h₄ (nw ++ [(I, oI)]) := by
      intro p hp
      rcases List.mem_append.mp hp with hp | hp
      · exact (hN₂.set hs₄) p hp
      · rw [List.mem_singleton.mp hp]
        exact ⟨hs₄.extBut _ _ (Nat.ne_of_gt hLlt) hoI, Nat.ne_of_gt hLlt, hIn⟩
    refine wpAny_mono (turn j v m₁ nw I oI h₄ _ hq hInv hoff F₄ N₄) (fun f s' hf => ?_) (fun _ _ e => e.elim)
    refine by_G fun G_ back_ => ?_
    obtain ⟨rfl, h', tk', m', nw', rfl, hInv', hoff', F', N'⟩ := hf
    refine back_ ?_
    clear back_ G_
    exact ⟨its.size - (j + 1), by omega, j + 1, h', tk', m', nw', hjlt, rfl, rfl, hInv', hoff', F', fun p hp => N' p (List.mem_append_left _ hp), ⟨oI, (N' _ (List.mem_append_right _ (.head _))).1, hoc, hod⟩⟩
end
end
-- T4
section
open PyProof.Rows.LCg (lst lst_snoc)
theorem lines_T4_1 : True := by
  k_with_none
  k_with "mine in" => ((case k6 => k_is); (case k7 => k_is); (case k8 => decide); (case k9 => exact BindsTo.of_eq rfl); (case kB => exact locs rfl); (case c2 => exact rfl); (case c3 => exact rfl); (case c4 => exact rfl); (case c5 => decide))
  k_with "exec For" => refine park ?_
  trivial
/-! the plain side -/
noncomputable def overGo (xb : List Str) (pre : List Str) : List Str → List Str
  | [] => []
  | x :: r => (if xb.count x < pre.count x + 1 then [x] else []) ++ overGo xb (pre ++ [x]) r
theorem countIn_str (k : Str) : ∀ ys : List Str, PySem.Spec.countIn (.str k) (ys.map PyData.str) = (ys.count k : Nat)
  | [] => rfl
  | y :: r => by
    rw [List.map_cons, List.count_cons]
    show (if (y == k) = true then (1 : Int) else 0) + PySem.Spec.countIn (.str k) (r.map PyData.str) = _
    rw [countIn_str k r]
    cases h : y == k
    · simp
    · simp; omega
theorem find_map_put (c : List (Str × Int)) (k j : Str) (v : Int) : (c.map (fun p => if decide (p.1 = k) then (p.1, v) else p)).find? (fun p => decide (p.1 = j)) = (c.find? fun p => decide (p.1 = j)).map (fun p => if decide (p.1 = k) then (p.1, v) else p) := by
  have e : ((fun p : Str × Int => decide (p.1 = j)) ∘ fun p => if decide (p.1 = k) = true then (p.1, v) else p) = fun p => decide (p.1 = j) := by
    funext p
    show decide ((if decide (p.1 = k) = true then (p.1, v) else p).1 = j) = _
    by_cases hp : p.1 = k
    · rw [if_pos (decide_eq_true hp)]
    · rw [if_neg (by simp [hp])]
  rw [List.find?_map, e]
theorem look_put (c : List (Str × Int)) (k j : Str) (v : Int) : kdpLook (kdpPut c k v) j 0 = if j = k then v else kdpLook c j 0 := by
  unfold kdpLook kdpPut
  by_cases hc : (c.any fun p => decide (p.1 = k)) = true
  · rw [if_pos hc, find_map_put]
    cases hf : c.find? (fun p => decide (p.1 = j)) with
    | none =>
      by_cases hj : j = k
      · subst hj
        rw [List.find?_eq_none] at hf
        rw [List.any_eq_true] at hc
        obtain ⟨p, hp, hd⟩ := hc
        exact absurd hd (hf p hp)
      · simp [hj]
    | some p =>
      have hp : p.1 = j := by simpa using List.find?_some hf
      by_cases hj : j = k
      · simp [hp, hj]
      · have : ¬ p.1 = k := by rw [hp]; exact hj
        simp [this, hj]
  · rw [if_neg hc, List.find?_append]
    have hno : ∀ p ∈ c, ¬ p.1 = k := fun p hp q => hc (List.any_eq_true.mpr ⟨p, hp, by simpa using q⟩)
    by_cases hj : j = k
    · subst hj
      have : c.find? (fun p => decide (p.1 = j)) = none := List.find?_eq_none.mpr fun p hp => by simpa using hno p hp
      simp [this]
    · have hj' : ¬ k = j := fun q => hj q.symm
      simp [hj, hj']
theorem strs_snoc {vs : List Value} {ys : List Str} (h : StrsAre vs ys) (y : Str) (t : Tok) : StrsAre (vs ++ [.str y t]) (ys ++ [y]) := by
  induction h with
  | nil => exact .cons _ _ .nil
  | cons z u _ ih => exact .cons _ _ ih
theorem strs_len {vs : List Value} {ys : List Str} (h : StrsAre vs ys) : vs.length = ys.length := by
  induction h with
  | nil => rfl
  | cons z u _ ih => simp [ih]
theorem strs_get {vs : List Value} {ys : List Str} (h : StrsAre vs ys) : ∀ (i : Nat) (v : Value), vs[i]? = some v → ∃ y t, v = .str y t ∧ ys[i]? = some y := by
  induction h with
  | nil => intro i v hv; simp at hv
  | cons z u _ ih =>
    intro i v hv
    cases i with
    | zero => simp at hv; exact ⟨z, u, hv.symm, rfl⟩
    | succ i => simpa using ih i v (by simpa using hv)
theorem over_step {xa xb zs : List Str} {i : Nat} {x : Str} (hx : xa[i]? = some x) (h : zs ++ overGo xb (xa.take i) (xa.drop i) = overGo xb [] xa) :
    (zs ++ (if xb.count x < (xa.take i).count x + 1 then [x] else [])) ++ overGo xb (xa.take (i + 1)) (xa.drop (i + 1)) = overGo xb [] xa := by
  have hlt := (List.getElem?_eq_some_iff.mp hx).1
  have e := (List.getElem?_eq_some_iff.mp hx).2
  rw [List.drop_eq_getElem_cons hlt, e] at h
  rw [← h, List.take_add_one, hx]
  simp [overGo, List.append_assoc]
section
variable {prog : Program} {w : World} {A : Around} {E : Value → Shared → Prop} {s : Shared} {h₀ : Heap} {L b : Addr} {m : Str → Option Value} {vb : List Value} {xb : List Str}
theorem count_method {pl : Sem Bool} {Q : Value × List Value → Shared → Prop} (F : Fr h₀ L s.heap m) (hb : h₀.get? b = some (lst vb)) (h : Q (.builtin "list.count", [.ref b]) s) : wpAny (model prog w) A (getMethod (.ref b) (Str.ofString "count") pl) Q E s :=
  getMethod_builtin ⟨_, F.keep _ _ hb, rfl⟩ PySem.F.plainAttrs_list PySem.F.slot_list_count PySem.F.type_list_count (fun a e => by cases e; exact ⟨_, F.keep _ _ hb, rfl⟩) h
theorem count_base {k : Str} {t : Tok} {Q : Value → Shared → Prop} (F : Fr h₀ L s.heap m) (hb : h₀.get? b = some (lst vb)) (hi : StrsAre vb xb) (h : ∀ t', Q (.int (xb.count k : Nat) t') { s with toks := s.toks + 1 }) : wpAny (model prog w) A (call (.builtin "list.count") [.ref b, .str k t]) Q E s :=
  count_list_strs ⟨_, F.keep _ _ hb, rfl, _, rfl⟩ hi (by rw [countIn_str]; exact h _)
end
theorem lines_T4_2 : True := by
  k_with "getMethod ref" => (k_here; (with_reducible show wpAny _ _ (getMethod (Value.ref _) (Str.ofString "count") _) _ _ _); k_dflt (refine count_method (by k_asm) (by assumption) ?_))
  k_with "call builtin:list.count" => (k_here; k_dflt (refine count_base (by k_asm) (by assumption) (by assumption) ?_); intro t')
  trivial
noncomputable def OverPost (s : Shared) (zs : List Str) (v : Value) (s' : Shared) : Prop := ∃ D ys, v = .ref D ∧ s.heap.get? D = none ∧ s'.heap.get? D = some (lst ys) ∧ StrsAre ys zs ∧ Keeps s s'
set_option maxHeartbeats 1000000 in
theorem c_over0 {w : World} {s : Shared} {mg mb : Str → Option Value} (B : Bs w mg mb s.heap) {a b : Addr} {va vb : List Value} {xa xb : List Str} (ha : s.heap.IsList a va.toArray) (hb : s.heap.get? b = some (lst vb)) (sa : StrsAre va xa) (sb : StrsAre vb xb) (hla : xa.length ≤ 100) :
    wpAny (model P w) (AA 5) (call (.ref 120) [.ref a, .ref b]) (OverPost s (overGo xb [] xa)) (fun _ _ => False) s := by
  have X := B.x
  refine by_G fun G_ back_ => ?_
  obtain ⟨loose, mean, T⟩ := B.t
  refine back_ ?_
  clear back_ G_
  refine wpAny_call ?_
  refine' enterK (binds := [(Str.ofString "mine", .ref a), (Str.ofString "theirs", .ref b)]) X T.nolimit ?k6 ?k7 ?k8 ?k9 ?kB ?_ ?c2 ?c3 ?c4 ?c5
  walk_at "mine in"
  intro h₁ F
  have N : News s.heap s.heap.objs.size h₁ [] := News.nil
  (try dsimp only)
  (try k_fold)
  k_steps
  rename_i d _ o lo hs fs _ _ _ _ l _ hdl _ Fx Nx
  refine for_list (ax := a) (its := va.toArray) (fun i m₁ nw => ∃ c o' kvs ys zs u, nw = [(l, W.listOf ys.toArray ys.length), (d, o')] ∧ Obj.IsDictOf (PySem.strKind P w) o' kvs ∧ PyProof.V.FlatPairs PyData.str kvs (kdpD c) ∧ c.length ≤ i ∧ (∀ x, kdpLook c x 0 = ((xa.take i).count x : Nat)) ∧
      StrsAre ys zs ∧ ys.length ≤ i ∧ zs ++ overGo xb (xa.take i) (xa.drop i) = overGo xb [] xa ∧ m₁ = fun y => if y = Str.ofString "name" then u else if y = Str.ofString "over" then some (Value.ref l) else if y = Str.ofString "seen" then some (Value.ref d) else List.lookup y [(Str.ofString "mine", Value.ref a), (Str.ofString "theirs", Value.ref b)].reverse)
    rfl rfl rfl Fx Nx ha (fun Q' E' q => nameX_L Fx rfl q) ?_ ?_ ?_ (fun _ => rfl)
  · refine ⟨[], o, [], [], [], none, rfl, hs, fs, Nat.le_refl _, fun x => rfl, .nil, Nat.le_refl _, by simp, ?_⟩
    funext y
    by_cases h1 : y = Str.ofString "name"
    · subst h1; rfl
    · rw [if_neg h1]
  · intro i v m₁ nw I oI h tk hv hpat1 hoff F₂ N₂
    refine by_G fun G_ back_ => ?_
    obtain ⟨c, o', kvs, ys, zs, u, rfl, hd', hf', hcl, hlook, hys, hyl, hzs, rfl⟩ := hpat1
    refine back_ ?_
    clear back_ G_
    clear Fx Nx hs fs
    refine by_G fun G_ back_ => ?_
    obtain ⟨x, t, rfl, hx⟩ := strs_get sa i v (by simpa using hv)
    refine back_ ?_
    clear back_ G_
    have hi : i < xa.length := (List.getElem?_eq_some_iff.mp hx).1
    have hc100 : c.length ≤ 100 := by omega
    have hy100 : ys.length ≤ 100 := by omega
    have hIl : @Ne Nat l I := hoff _ (.head _)
    have hId : @Ne Nat d I := hoff _ (.tail _ (.head _))
    simp only [List.cons_append, List.nil_append] at N₂
    have htake : xa.take (i + 1) = xa.take i ++ [x] := by rw [List.take_add_one, hx]; rfl
    have hput : ∀ x', kdpLook (kdpPut c x (kdpLook c x 0 + 1)) x' 0 = ((xa.take (i + 1)).count x' : Nat) := fun x' => by
      rw [look_put, htake, List.count_append, List.count_singleton]
      by_cases h : x' = x
      · subst h; rw [if_pos rfl, hlook]; simp
      · rw [if_neg h, hlook]
        have : ¬ x = x' := fun q => h q.symm
        simp [this]
    have hcx : ((xa.take (i + 1)).count x : Nat) = (xa.take i).count x + 1 := by rw [htake, List.count_append, List.count_singleton]; simp
    have hov := over_step hx hzs
    have hplen : (kdpPut c x (kdpLook c x 0 + 1)).length ≤ i + 1 := Nat.le_trans (kdpPut_len _ _ _) (Nat.succ_le_succ hcl)
    have hm : ∀ u' : Option Value, (fun y => if y = Str.ofString "name" then u' else (fun y => if y = Str.ofString "name" then u else if y = Str.ofString "over" then some (Value.ref l) else if y = Str.ofString "seen" then some (Value.ref d) else List.lookup y [(Str.ofString "mine", Value.ref a), (Str.ofString "theirs", Value.ref b)].reverse) y) =
        fun y => if y = Str.ofString "name" then u' else if y = Str.ofString "over" then some (Value.ref l) else if y = Str.ofString "seen" then some (Value.ref d) else List.lookup y [(Str.ofString "mine", Value.ref a), (Str.ofString "theirs", Value.ref b)].reverse := fun u' => by
      funext y
      by_cases h : y = Str.ofString "name"
      · simp only [if_pos h]
      · simp only [if_neg h]
    k_steps
    · rename_i hgt _ _ F' N'
      rw [show W.listOf (ys.toArray.push (Value.str x t)) (ys.length + 1) = W.listOf (ys ++ [Value.str x t]).toArray (ys ++ [Value.str x t]).length from lst_snoc ys _] at N'
      rw [hput, hcx] at hgt
      rw [if_pos (by omega)] at hov
      refine ⟨rfl, _, _, _, _, rfl, ⟨_, _, _, _, _, _, rfl, by assumption, by assumption, hplen, hput, strs_snoc hys x t, by rw [List.length_append, List.length_singleton]; omega, hov, hm _⟩, fun q hq => ?_, by assumption, N'⟩
      rcases List.mem_cons.mp hq with rfl | hq
      · exact hIl
      · rw [List.mem_singleton.mp hq]; exact hId
    · rename_i hgt
      rw [hput, hcx] at hgt
      rw [if_neg (by omega), List.append_nil] at hov
      refine ⟨rfl, _, _, _, _, rfl, ⟨_, _, _, _, _, _, rfl, by assumption, by assumption, hplen, hput, hys, by omega, hov, hm _⟩, fun q hq => ?_, by assumption, by assumption⟩
      rcases List.mem_cons.mp hq with rfl | hq
      · exact hIl
      · rw [List.mem_singleton.mp hq]; exact hId
  · intro h tk m₁ nw hpat1 F₂ N₂
    refine by_G fun G_ back_ => ?_
    obtain ⟨c, o', kvs, ys, zs, u, rfl, hd', hf', hcl, hlook, hys, hyl, hzs, rfl⟩ := hpat1
    refine back_ ?_
    clear back_ G_
    k_steps
    have hsz : xa.take va.toArray.size = xa ∧ xa.drop va.toArray.size = [] := by
      rw [List.size_toArray, strs_len sa]; exact ⟨List.take_length, List.drop_length⟩
    rw [hsz.1, hsz.2] at hzs
    simp only [overGo, List.append_nil] at hzs
    rw [hzs] at hys
    exact ⟨l, ys, rfl, (N₂ _ (.head _)).2.2, (N₂ _ (.head _)).1, hys, keeps_fr F₂⟩
end
-- LW1
section
open PyProof.Rows.LCg (lst lst_snoc)
theorem post_true (args : List WData) : PySem.Challenge.rw_oh0023_01.row.claim.post args (WData.bool true) args = true := by
  show (WShape.has [] (WData.bool true) WShape.bool && WTm.holds [] (.eq .res (.lit (.bool true))) { args := args, res := some (.bool true), after := args }) = true
  have h1 : WShape.has [] (WData.bool true) WShape.bool = true := by simp [WShape.has, WShape.arms]
  rw [h1, Bool.true_and]
  have h2 : same (WData.bool true) (WData.bool true) = true := by simp [same]
  simp [WTm.holds, WTm.value, h2]
noncomputable def LawGood (g : Heap) (s₁ : Shared) (r : Result) (s' : Shared) : Prop := r = .ok (.ret (.bool true)) ∧ (∀ b o, g.get? b = some o → s'.heap.get? b = some o) ∧ s'.os = s₁.os ∧ AllBare s'.gens ∧ GrownAt 98 s'.heap ∧ GrownAt 16 s'.heap
theorem law_post {M : Model} {A : Around} {cd : Code} {s s₁ : Shared} {cw : ClaimW} {cl : Str → Option Addr} {mean : ExcName → Option Value} {args : List WData} (hT : TabsAt [(102, 98), (20, 16)] s₁.heap) (hr : ∀ a x, cw.raises a x = false) (hp : cw.post args (.bool true) args = true)
    (h : codeAny M A cd (LawGood (ghostOf s₁.heap [(102, 98), (20, 16)]) s₁) s) : codeAny M A cd (GoodWG cw cl mean args s₁) s :=
  codeAny_mono h fun r s' ⟨hres, hk, hos, hg, g98, g16⟩ => by
    have keep : ∀ b o, b ≠ 98 → b ≠ 16 → s₁.heap.get? b = some o → s'.heap.get? b = some o := fun b o n1 n2 e => hk b o (ghost_ne e (by intro q; rcases List.mem_cons.mp q with q | q; exact n1 q; exact n2 (List.mem_singleton.mp q)))
    have grown : ∀ b, b = 98 ∨ b = 16 → ∀ o, s₁.heap.get? b = some o → isCodeTable s₁.heap b ∧ o = tabObj #[] ∧ ∃ ps, s'.heap.get? b = some (tabObj ps) := by
      rintro b (rfl | rfl) o e
      · have q := hT (102, 98) (.head _)
        rw [e] at q
        exact ⟨((hT (102, 98) (.head _)).1.tab (hT (102, 98) (.head _)).2).isCodeTable, Option.some.inj q.2, g98⟩
      · have q := hT (20, 16) (.tail _ (.head _))
        rw [e] at q
        exact ⟨((hT (20, 16) (.tail _ (.head _))).1.tab (hT (20, 16) (.tail _ (.head _))).2).isCodeTable, Option.some.inj q.2, g16⟩
    refine ⟨.inl ⟨_, _, [], hres, fun _ => hr _ _, ReadsW.bool _, hp, fun _ => ⟨.nil, fun a ha => by cases ha⟩⟩, ⟨fun b o e => ?_, fun b o e => ?_⟩, hos, hg⟩
    · by_cases hb : b = 98 ∨ b = 16
      · obtain ⟨ht, rfl, ps, hP⟩ := grown b hb o e
        exact .inr (.inl ⟨ht, rfl, #[], ps, rfl, by rw [Array.empty_append]; exact hP⟩)
      · exact .inl (keep b o (fun z => hb (.inl z)) (fun z => hb (.inr z)) e)
    · by_cases hb : b = 98 ∨ b = 16
      · obtain ⟨_, _, ps, hP⟩ := grown b hb o e
        exact ⟨_, hP⟩
      · exact ⟨o, keep b o (fun z => hb (.inl z)) (fun z => hb (.inr z)) e⟩
/-! the numbers -/
noncomputable def Marker : Prop := True
noncomputable def numsOf (ns : List Int) : List Int := if ((ns.take 8).length : Int) < 3 then ns.take 8 ++ [35, 6, 2, 27, 18, 29, 59] else ns.take 8
noncomputable def NumSt (g : Heap) (L : Addr) (mo : Str → Option Value) (cells : List (Addr × Obj)) (ns : List Int) (s₁ s' : Shared) : Prop := ∃ h tk D c ws, s' = { s₁ with heap := h, toks := tk } ∧ IntsAre ws (numsOf ns) ∧ Fr g L h (fun y => if y = Str.ofString "numbers" then some (.ref D) else mo y) ∧ News g L h ((D, W.listOf ws.toArray c) :: cells) ∧ ∀ q ∈ cells, q.1 < D
theorem fr_congr {g h : Heap} {L : Addr} {m m' : Str → Option Value} (F : Fr g L h m) (e : ∀ y, m y = m' y) : Fr g L h m' := (funext e : m = m') ▸ F
theorem law_if {M : Model} {A : Around} {E : Value → Shared → Prop} {Q : Flow → Shared → Prop} {s s₁ : Shared} {st : Stmt} {env : Env} {g h₀ : Heap} {L D₀ D₁ : Addr} {o₀ o₁ : Obj} {cells : List (Addr × Obj)} (mo : Str → Option Value) (ns : List Int)
    (_N₀ : News g L h₀ ((D₀, o₀) :: (D₁, o₁) :: cells))
    (walk : wpAny M A (exec st env) (fun f s' => Parked (f = .next ∧ NumSt g L mo cells ns s₁ s')) E s)
    (rest : ∀ h tk D c ws, IntsAre ws (numsOf ns) → Fr g L h (fun y => if y = Str.ofString "numbers" then some (.ref D) else mo y) → News g L h ((D, W.listOf ws.toArray c) :: cells) → (∀ q ∈ cells, q.1 < D) → Q .next { s₁ with heap := h, toks := tk }) : wpAny M A (exec st env) Q E s :=
  wpAny_mono walk (fun f s' hf => by
    obtain ⟨rfl, h, tk, D, c, ws, rfl, h1, h2, h3, h4⟩ := hf
    exact rest h tk D c ws h1 h2 h3 h4) fun _ _ e => e
noncomputable def modeN (ns : List Int) (i : Int) : Int := ((numsOf ns).getD i.toNat 0 * 2741).fmod 65536
theorem numsOf_len (ns : List Int) : 3 ≤ (numsOf ns).length ∧ (numsOf ns).length ≤ 9 := by
  unfold numsOf
  split
  · rename_i h
    simp only [List.length_append, List.length_cons, List.length_nil]
    omega
  · rename_i h
    have := List.length_take_le 8 ns
    omega
theorem num_end {g h : Heap} {L D : Addr} {mo m' : Str → Option Value} {cells rest : List (Addr × Obj)} {ns : List Int} {s₁ : Shared} {tk c : Nat} {ws : List Value} (F : Fr g L h m') (N : News g L h ((D, W.listOf ws.toArray c) :: rest)) (hm : ∀ y, m' y = if y = Str.ofString "numbers" then some (.ref D) else mo y) (hI : IntsAre ws (numsOf ns)) (hs : ∀ q ∈ cells, q ∈ rest) (hl : ∀ q ∈ cells, q.1 < D) :
    Parked (Flow.next = .next ∧ NumSt g L mo cells ns s₁ { s₁ with heap := h, toks := tk }) :=
  ⟨rfl, h, tk, D, c, ws, rfl, hI, fr_congr F hm, fun p hp => N p (by
    rcases List.mem_cons.mp hp with rfl | hp
    · exact .head _
    · exact .tail _ (hs p hp)), hl⟩
end
-- LW2
section
open PyProof.Rows.LCg (lst lst_snoc)
/-- what stays so while law runs -/
structure LF (w : World) (mg mb : Str → Option Value) (g : Heap) (L : Addr) (cs : List (Str × Addr)) : Prop where
  B : Bs w mg mb g
  n98 : g.get? 98 = none
  n16 : g.get? 16 = none
  c98 : CodeHd g 102 98
  c16 : CodeHd g 20 16
  l98 : @LT.lt Nat _ 98 L
  l16 : @LT.lt Nat _ 16 L
  above : ∀ x c, cs.lookup x = some c → @LT.lt Nat _ L c
  inj : ∀ x y c, cs.lookup x = some c → cs.lookup y = some c → x = y
theorem lookup_mem {x : Str} {c : Addr} : ∀ {cs : List (Str × Addr)}, cs.lookup x = some c → (x, c) ∈ cs
  | (y, d) :: r, h => by
    rw [List.lookup_cons] at h
    cases hb : x == y with
    | true => rw [hb] at h; cases h; rw [eq_of_beq hb]; exact .head _
    | false => rw [hb] at h; exact .tail _ (lookup_mem h)
theorem cells_above {L : Nat} {cs : List (Str × Addr)} (h : ∀ p ∈ cs, @LT.lt Nat _ L p.2) : ∀ x c, cs.lookup x = some c → @LT.lt Nat _ L c := fun x c q => h (x, c) (lookup_mem q)
theorem cells_inj : ∀ {cs : List (Str × Addr)} (_ : cs.Pairwise fun p q => @Ne Nat p.2 q.2), ∀ x y c, cs.lookup x = some c → cs.lookup y = some c → x = y := by
  intro cs h x y c hx hy
  have mx := lookup_mem hx
  have my := lookup_mem hy
  clear hx hy
  induction h with
  | nil => cases mx
  | cons hd _ ih =>
    rcases List.mem_cons.mp mx with e1 | mx'
    · rcases List.mem_cons.mp my with e2 | my'
      · rw [← e2] at e1; exact congrArg Prod.fst e1
      · exact absurd (by rw [← e1]) (hd _ my')
    · rcases List.mem_cons.mp my with e2 | my'
      · exact absurd (by rw [← e2]) (hd _ mx')
      · exact ih mx' my'
/-- law's state between two statements -/
structure LS (g : Heap) (L : Addr) (cs : List (Str × Addr)) (s₁ s : Shared) (m cv : Str → Option Value) : Prop where
  fr : Fr g L s.heap m
  cell : ∀ x c, cs.lookup x = some c → ∃ o, s.heap.get? c = some o ∧ o.data = .cell (cv x)
  ti : TI s.heap
  bare : AllBare s.gens
  os : s.os = s₁.os
noncomputable def Safe (L : Addr) (cs : List (Str × Addr)) (b : Addr) : Prop := b ≠ L ∧ (∀ x c, cs.lookup x = some c → b ≠ c) ∧ b ≠ 98 ∧ b ≠ 16
/-- the safe objects stay -/
noncomputable def Stay (L : Addr) (cs : List (Str × Addr)) (s s' : Shared) : Prop := ∀ b o, Safe L cs b → s.heap.get? b = some o → s'.heap.get? b = some o
theorem Stay.trans {L : Addr} {cs : List (Str × Addr)} {s s' s'' : Shared} (x : Stay L cs s s') (y : Stay L cs s' s'') : Stay L cs s s'' := fun b o hb e => y b o hb (x b o hb e)
section
variable {w : World} {mg mb : Str → Option Value} {g : Heap} {L : Addr} {cs : List (Str × Addr)} {s₁ s s' : Shared} {m cv : Str → Option Value}
theorem LF.ne98 (f : LF w mg mb g L cs) {x : Str} {c : Addr} (h : cs.lookup x = some c) : c ≠ 98 ∧ c ≠ 16 ∧ c ≠ L := by
  have h1 := f.above x c h; have h2 := f.l98; have h3 := f.l16
  exact ⟨(show @Ne Nat c 98 by omega), (show @Ne Nat c 16 by omega), (show @Ne Nat c L by omega)⟩
theorem LS.safe (f : LF w mg mb g L cs) (S : LS g L cs s₁ s m cv) {D : Addr} (hD : s.heap.get? D = none) (n1 : D ≠ 98) (n2 : D ≠ 16) : Safe L cs D := by
  refine ⟨fun z => ?_, fun x c h z => ?_, n1, n2⟩
  · obtain ⟨o, es, ep, e, _⟩ := S.fr.ns
    rw [z, e] at hD; cases hD
  · obtain ⟨o, e, _⟩ := S.cell x c h
    rw [z, e] at hD; cases hD
theorem LS.ext (f : LF w mg mb g L cs) (S : LS g L cs s₁ s m cv) (X : Ext s s') : LS g L cs s₁ s' m cv ∧ Stay L cs s s' := by
  refine ⟨⟨⟨S.fr.ns.at' fun o e => X.get _ _ (Nat.ne_of_gt f.l98) (Nat.ne_of_gt f.l16) e, fun b o e => X.get b o (fun z => by rw [z, f.n98] at e; cases e) (fun z => by rw [z, f.n16] at e; cases e) (S.fr.keep b o e), S.fr.above⟩, fun x c h => ?_, X.ti, X.bare, ?_⟩, fun b o hb e => X.get b o hb.2.2.1 hb.2.2.2 e⟩
  · obtain ⟨o, e, d⟩ := S.cell x c h
    exact ⟨o, X.get _ _ (f.ne98 h).1 (f.ne98 h).2.1 e, d⟩
  · obtain ⟨h, tk, gs, rfl, _⟩ := X
    exact S.os
theorem LS.setL (f : LF w mg mb g L cs) (S : LS g L cs s₁ s m cv) {h' : Heap} {m' : Str → Option Value} {tk : Nat} (hn : h'.Ns L m') (hs : Heap.SameBut L s.heap h') : LS g L cs s₁ { s with heap := h', toks := tk } m' cv ∧ Stay L cs s { s with heap := h', toks := tk } := by
  obtain ⟨oL, e, nc⟩ := notCode_ns S.fr.ns
  refine ⟨⟨⟨hn, fun b o q => hs.extBut b o (fun z => ?_) (S.fr.keep b o q), S.fr.above⟩, fun x c h => ?_, S.ti.change hs.extBut e nc (Nat.ne_of_gt f.l98) (Nat.ne_of_gt f.l16), S.bare, S.os⟩, fun b o hb q => hs.extBut b o hb.1 q⟩
  · have := Nat.lt_of_lt_of_le (Heap.lt_size q) S.fr.above
    rw [z] at this; exact Nat.lt_irrefl _ this
  · obtain ⟨o, q, d⟩ := S.cell x c h
    exact ⟨o, hs.extBut _ _ (f.ne98 h).2.2 q, d⟩
theorem LS.setC (f : LF w mg mb g L cs) (S : LS g L cs s₁ s m cv) {h' : Heap} {x : Str} {c : Addr} {v : Value} (hc : cs.lookup x = some c) (hv : ∃ o, h'.get? c = some o ∧ o.data = .cell (some v)) (hs : Heap.SameBut c s.heap h') :
    LS g L cs s₁ { s with heap := h' } m (fun y => if y = x then some v else cv y) ∧ Stay L cs s { s with heap := h' } := by
  obtain ⟨oc, e, d⟩ := S.cell x c hc
  have ne := f.ne98 hc
  refine ⟨⟨⟨S.fr.ns.at' fun o q => hs.extBut _ _ (Ne.symm ne.2.2) q, fun b o q => hs.extBut b o (fun z => ?_) (S.fr.keep b o q), S.fr.above⟩, fun y c' h => ?_, S.ti.change hs.extBut e (fun _ _ _ q _ => by rw [d] at q; cases q) ne.1 ne.2.1, S.bare, S.os⟩, fun b o hb q => hs.extBut b o (hb.2.1 x c hc) q⟩
  · have h1 := Nat.lt_of_lt_of_le (Heap.lt_size q) S.fr.above
    have h2 := f.above x c hc
    rw [z] at h1; exact Nat.lt_irrefl _ (Nat.lt_trans h1 h2)
  · by_cases hy : y = x
    · subst hy
      rw [hc] at h; cases h
      rw [if_pos rfl]; exact hv
    · obtain ⟨o, q, d⟩ := S.cell y c' h
      rw [if_neg hy]
      exact ⟨o, hs.extBut _ _ (fun z => hy (f.inj y x c (z ▸ h) hc)) q, d⟩
end
section
variable {M : Model} {A : Around} {E : Value → Shared → Prop} {w : World} {mg mb : Str → Option Value} {g : Heap} {L a : Addr} {cs : List (Str × Addr)} {s₁ s : Shared} {m cv : Str → Option Value} {cn : Str} {sc : Scope} {cd : Value} {x : Str} {px pos : Pos} {e : Expr} {Q : Flow → Shared → Prop}
/-- x = e, x a cell -/
theorem asg_cell (f : LF w mg mb g L cs) (S₀ : LS g L cs s₁ s m cv) {c : Addr} (hc : cs.lookup x = some c) (hk : sc.kind = .function) (hx : (envX cn sc L a cd cs).kindOf x = some .cell)
    (h : wpAny M A (eval e (envX cn sc L a cd cs)) (fun v s' => Ext s s' ∧ ∀ s'', LS g L cs s₁ s'' m (fun y => if y = x then some v else cv y) → Stay L cs s s'' → Stay L cs s' s'' → Q .next s'') E s)
    (hs : swapsWith e (some (.Name x px)) pos.line (envX cn sc L a cd cs) = pure false) :
    wpAny M A (exec (.Assign [.Name x px] e pos) (envX cn sc L a cd cs)) Q E s := by
  refine wpAny_Assign_Name (wpAny_mono h (fun v s' hv => ?_) fun _ _ q => q) hs
  obtain ⟨X, hQ⟩ := hv
  obtain ⟨S, st₀⟩ := S₀.ext f X
  obtain ⟨o, e, d⟩ := S.cell x c hc
  refine wpAny_storeName_cell hk hx hc ⟨o, e, d⟩ fun h' hv hs => ?_
  obtain ⟨S', st⟩ := S.setC f hc hv hs
  exact hQ _ S' (st₀.trans st) st
/-- x = e, x local -/
theorem asg_local (f : LF w mg mb g L cs) (S₀ : LS g L cs s₁ s m cv) (hk : sc.kind = .function) (hx : (envX cn sc L a cd cs).kindOf x = some .local)
    (h : wpAny M A (eval e (envX cn sc L a cd cs)) (fun v s' => Ext s s' ∧ ∀ s'', LS g L cs s₁ s'' (fun y => if y = x then some v else m y) cv → Stay L cs s s'' → Stay L cs s' s'' → Q .next s'') E s)
    (hs : swapsWith e (some (.Name x px)) pos.line (envX cn sc L a cd cs) = pure false) :
    wpAny M A (exec (.Assign [.Name x px] e pos) (envX cn sc L a cd cs)) Q E s := by
  refine wpAny_Assign_Name (wpAny_mono h (fun v s' hv => ?_) fun _ _ q => q) hs
  obtain ⟨X, hQ⟩ := hv
  obtain ⟨S, st₀⟩ := S₀.ext f X
  refine wpAny_storeName_local hx S.fr.ns (fun h' hn hs => ?_) (by show (sc.kind == .class || (sc.kind == .module && L != mainGlobals)) = false; rw [hk]; rfl)
  obtain ⟨S', st⟩ := S.setL (tk := s'.toks + 1) f hn hs
  exact hQ _ S' (st₀.trans st) st
theorem with_LS {st : Stmt} {m cv : Str → Option Value} (f : LF w mg mb g L cs) (S : LS g L cs s₁ s m cv) (h : LF w mg mb g L cs → LS g L cs s₁ s m cv → wpAny M A (exec st (envX cn sc L a cd cs)) Q E s) : wpAny M A (exec st (envX cn sc L a cd cs)) Q E s := h f S
end
theorem bs_base {w : World} {mg mb : Str → Option Value} {g : Heap} {L : Addr} {cs : List (Str × Addr)} {s₁ s : Shared} {m cv : Str → Option Value} (f : LF w mg mb g L cs) (S : LS g L cs s₁ s m cv) : Bs w mg mb (baseOf s.heap) :=
  f.B.keeps fun b o e => base_get (S.fr.keep b o e) (fun z => by rw [z, f.n98] at e; cases e) (fun z => by rw [z, f.n16] at e; cases e)
theorem ints_mem {vs : List Value} {ns : List Int} (h : IntsAre vs ns) {v : Value} (hv : v ∈ vs) : ∃ i t, v = .int i t := by
  induction h with
  | nil => cases hv
  | cons n t _ ih =>
    rcases List.mem_cons.mp hv with rfl | hv
    · exact ⟨_, _, rfl⟩
    · exact ih hv
theorem ints_len {vs : List Value} {ns : List Int} (h : IntsAre vs ns) : vs.length = ns.length := by
  induction h with
  | nil => rfl
  | cons n t _ ih => simp [ih]
theorem new_fresh {h : Heap} {a : Addr} {o : Obj} (hn : h.get? a = none) (t : TI h) : FreshO h (a, o) := by
  obtain ⟨⟨p1, e1, _⟩, ⟨p2, e2, _⟩⟩ := t
  exact ⟨fun z => (by rw [show a = 98 from z, e1] at hn; cases hn), fun z => (by rw [show a = 16 from z, e2] at hn; cases hn), .inl hn⟩
end
-- U1
section
open PyProof.Rows.LCg (lst lst_snoc)
/-! the plain side -/
noncomputable def diffGo : List Str → List Str → List Str × List Str
  | [], act => ([], act)
  | x :: r, act => if (act.any (· == x)) = true then diffGo r (act.erase x) else (x :: (diffGo r act).1, (diffGo r act).2)
theorem strs_app {us vs : List Value} {xs ys : List Str} (h : StrsAre us xs) (h' : StrsAre vs ys) : StrsAre (us ++ vs) (xs ++ ys) := by
  induction h with
  | nil => exact h'
  | cons z u _ ih => exact .cons _ _ ih
theorem strs_last {vs : List Value} {xs : List Str} {r : List Str} {x : Str} (h : StrsAre vs xs) : xs = r ++ [x] → ∃ us t, vs = us ++ [.str x t] ∧ StrsAre us r := by
  induction h generalizing r with
  | nil => intro e; cases r <;> cases e
  | cons z u hh ih =>
    intro e
    cases r with
    | nil =>
      cases e
      cases hh
      exact ⟨[], u, rfl, .nil⟩
    | cons y r =>
      cases e
      obtain ⟨us, t, rfl, h2⟩ := ih rfl
      exact ⟨.str z u :: us, t, rfl, .cons _ _ h2⟩
theorem strs_erase {vs : List Value} {xs : List Str} (h : StrsAre vs xs) (x : Str) : (xs.any (· == x)) = true → ∃ (j : Nat) (hj : j < vs.length), isStrOf x vs[j] = true ∧ (∀ i (hi : i < vs.length), i < j → isStrOf x vs[i] = false) ∧ StrsAre (vs.eraseIdx j) (xs.erase x) := by
  induction h with
  | nil => intro e; cases e
  | cons z u hh ih =>
    intro e
    by_cases hz : (z == x) = true
    · refine ⟨0, by simp, hz, fun i hi h0 => absurd h0 (Nat.not_lt_zero _), ?_⟩
      rw [List.eraseIdx_zero, List.erase_cons, if_pos hz]
      exact hh
    · rw [List.any_cons] at e
      have hz' : (z == x) = false := by simpa using hz
      rw [hz', Bool.false_or] at e
      obtain ⟨j, hj, h1, h2, h3⟩ := ih e
      refine ⟨j + 1, by simpa using hj, by simpa using h1, fun i hi h0 => ?_, ?_⟩
      · cases i with
        | zero => exact hz'
        | succ i => simpa using h2 i (by simpa using hi) (Nat.lt_of_succ_lt_succ h0)
      · rw [List.eraseIdx_cons_succ, List.erase_cons, if_neg hz]
        exact .cons _ _ h3
theorem strs_none {vs : List Value} {xs : List Str} (h : StrsAre vs xs) (x : Str) : ¬ (xs.any (· == x)) = true → ∀ i (hi : i < vs.length), isStrOf x vs[i] = false := by
  induction h with
  | nil => intro _ i hi; exact absurd hi (Nat.not_lt_zero _)
  | cons z u hh ih =>
    intro e i hi
    rw [List.any_cons, Bool.or_eq_true, not_or] at e
    cases i with
    | zero => simpa [isStrOf] using e.1
    | succ i => simpa using ih e.2 i (by simpa using hi)
/-! steps -/
section
variable {prog : Program} {w : World} {A : Around} {E : Value → Shared → Prop} {s : Shared} {h₀ : Heap} {L D : Addr} {m : Str → Option Value} {news news' : List (Addr × Obj)} {n : Nat}
theorem pop_str {us : List Value} {x : Str} {t : Tok} {Q : Value → Shared → Prop} (F : Fr h₀ L s.heap m) (N : News h₀ L s.heap news) (U : Upd D (listOf (us ++ [Value.str x t]).toArray n) (listOf us.toArray (n + 1)) news news')
    (hz : us.length ≤ 100) (h : ∀ h', Fr h₀ L h' m → News h₀ L h' news' → Q (.str x t) { s with heap := h' }) : wpAny (model prog w) A (call (.builtin "list.pop") [.ref D]) Q E s :=
  kl_pop F N (p := us) (y := .str x t) (by simpa using kpa_last (Value.str x t) us) U (by rw [sizeLine_eq]; simp; omega) h
theorem remove_str {us : List Value} {ys : List Str} {x : Str} {t : Tok} {Q : Value → Shared → Prop} (F : Fr h₀ L s.heap m) (N : News h₀ L s.heap news) (hm : (D, listOf us.toArray n) ∈ news) (hi : StrsAre us ys) (hA : A.handled = none)
    (hz : us.length ≤ 100) {nw : Obj → List (Addr × Obj)} (hU : UpdF D (listOf us.toArray n) news nw)
    (h1 : ∀ h' (vs : List Value), (ys.any (· == x)) = true → StrsAre vs (ys.erase x) → Fr h₀ L h' m → News h₀ L h' (nw (listOf vs.toArray (n + 1))) → Q .none { s with heap := h' })
    (h2 : ¬ (ys.any (· == x)) = true → ∀ h' tk e, Heap.NewExc s.heap h' e "ValueError" → E (.ref e) { s with heap := h', toks := tk }) :
    wpAny (model prog w) A (call (.builtin "list.remove") [.ref D, .str x t]) Q E s := by
  have z := N (D, listOf us.toArray n) hm
  by_cases hin : (ys.any (· == x)) = true
  · obtain ⟨j, hj, a1, a2, a3⟩ := strs_erase hi x hin
    obtain ⟨pre, post, rfl, e', a', b'⟩ := hU.split
    refine call_meets PySem.F.slot_list_remove ⟨_, z.1, rfl⟩ PySem.F.entry_list_remove (PySem.F.args_list_remove_2 _ _)
      (MeetsSeq.list_remove D us.toArray n (.str x t) (isStrOf x) (fun y hy => eq_isStrOf x t hi y (by simpa using hy)) j (by simpa using hj) (by simpa using a1) (fun i hi hlt => (by simpa using a2 i (by simpa using hi) hlt)) (by rw [sizeLine_eq]; simp; omega))
      ⟨z.1, h1 _ (us.eraseIdx j) hin a3 (F.change (Heap.SameBut.update ..) z.2.1 z.2.2) ((e' _).symm ▸ ki_turn _ N a' b' ?_ ?_)⟩
    · show us.toArray.eraseIdxIfInBounds j = (us.eraseIdx j).toArray
      apply Array.toList_inj.mp
      simp [Array.toList_eraseIdxIfInBounds]
    · have hq : (us.eraseIdx j).toArray.size ≠ us.toArray.size := by
        rw [List.size_toArray, List.size_toArray, List.length_eraseIdx, if_pos hj]; omega
      rw [if_neg (by simpa using hq)]
  · exact call_meets PySem.F.slot_list_remove ⟨_, z.1, rfl⟩ PySem.F.entry_list_remove (PySem.F.args_list_remove_2 _ _)
      (MeetsSeq.list_remove_none D us.toArray n (.str x t) (isStrOf x) (fun y hy => eq_isStrOf x t hi y (by simpa using hy)) (fun i hi' => by simpa using strs_none hi x hin i (by simpa using hi')))
      ⟨z.1, hA, fun h' tk e hx => h2 hin h' tk e hx⟩
end
end
-- U2
section
open PyProof.Rows.LCg (lst lst_snoc)
theorem lines_U2_1 : True := by
  k_with_none
  k_with "mine in" => ((case k6 => k_is); (case k7 => k_is); (case k8 => exact Nat.lt_of_succ_le (Nat.le_of_ble_eq_true rfl)); (case k9 => exact BindsTo.of_eq rfl); (case kB => exact locs rfl); (case c2 => exact rfl); (case c3 => exact rfl); (case c4 => exact rfl); (case c5 => decide))
  k_with "exec While" => refine park ?_
  k_with "call builtin:list.pop" => (k_here; k_dflt (refine' pop_str ?zqF ?zqN ?zqU ?zqz ?_; (case zqF => k_asm); (case zqN => k_asm); (case zqU => k_upd); (case zqz => assumption)); intro h' F' N'; (try k_sweep))
  k_with "call builtin:list.remove" => (k_here; k_dflt (refine' remove_str ?zqF ?zqN ?zqm ?zqi ?zqA ?zqz ?zqU ?_ ?_; (case zqF => k_asm); (case zqN => k_asm); (case zqm => k_mem); (case zqi => assumption); (case zqA => rfl); (case zqz => assumption); (case zqU => k_updF)); (all_goals (first | (intro h' vs' hin' hs' F' N'; (try dsimp only at N')) | (intro hin' h' tk' e' tiX'))))
  trivial
theorem truthy_snoc {prog : Program} {w : World} {A : Around} {E : Value → Shared → Prop} {s : Shared} {h₀ : Heap} {L D : Addr} {news : List (Addr × Obj)} {n : Nat} {us : List Value} {v : Value} {Q : Bool → Shared → Prop} (N : News h₀ L s.heap news) (hm : (D, listOf (us ++ [v]).toArray n) ∈ news) (hz : us.length ≤ 100)
    (h : ∀ tk, Q true { s with toks := tk }) : wpAny (model prog w) A (truthy (.ref D)) Q E s :=
  wpAny_truthy_list (items := (us ++ [v]).toArray) ⟨_, (N _ hm).1, rfl, _, rfl⟩ (by simp; omega) (by rw [show (!(us ++ [v]).toArray.isEmpty) = true from by simp]; exact h _)
theorem lines_U2_2 : True := by
  k_with "truthy ref" => (k_here; k_dflt (refine' truthy_snoc ?zqN ?zqm ?zqz ?_; (case zqN => k_asm); (case zqm => k_mem); (case zqz => assumption)); intro tk')
  trivial
theorem clause_B {prog : Program} {w : World} {A₀ : Around} {E : Value → Shared → Prop} {s' : Shared} {h₀ : Heap} {L a e : Addr} {m mg mb : Str → Option Value} {news : List (Addr × Obj)} {name : Str} {scope : Scope} {cd fl : Value} {K : Frag}
    {b₀ : Stmt} {suite : List Stmt} {pos np : Pos} {rest : List ExceptHandler} {Q : Flow → Shared → Prop} {X : String} {x : Str} {p : Program} {loose : List Str} {mean : ExcName → Option Value} (H : TT.HeldNA h₀ L s'.heap m e X news fl) (KX : K.In h₀) (T : Top p loose mean mg mb h₀) (ex : nsIn K mainGlobals x = some none)
    (k : ∀ h', Fr h₀ L h' m → News h₀ L h' news → wpAny (model prog w) ((A₀.deeper (envOf name scope L a cd)).mark (some (.ref e))) (execs (b₀ :: suite) (envOf name scope L a cd)) Q E { s' with heap := h' })
    (h3 : subB X (.type x.toString) = some true := by decide +kernel) (hv : bootBuiltins x = some (.type x.toString) := by decide +kernel) (h1 : subB x.toString (.type "BaseException") = some true := by decide +kernel)
    (h2 : subB ((Manifest.find? x.toString).elim "type" fun y => y.metatype) (.type "tuple") = some false := by decide +kernel) (hn : x ≠ "__name__" := by decide)
    (hk : scope.kind = .function := by rfl) (hxk : (envOf name scope L a cd).kindOf x = some .globalImplicit := by rfl) (hdb : (x == ("__debug__" : Str)) = false := by decide)
    (hE : PassesOwnAt (model prog w) ((A₀.deeper (envOf name scope L a cd)).mark (some (.ref e))) (A₀.deeper (envOf name scope L a cd)) (envOf name scope L a cd) E := by passes_own) :
    wpAny (model prog w) (A₀.deeper (envOf name scope L a cd)) (handleBy (.ref e) (envOf name scope L a cd) (.ExceptHandler (some (.Name x np)) none (b₀ :: suite) pos :: rest)) Q E s' := by
  refine wpAny_handleBy_builtin (X := X) (T := x.toString) (b := true) (isSubtype_of_subB h1) (isSubtype_of_subB h2) (isSubtype_of_subB h3) (wpAny_passesOwnAt hE (name_B H.held.fr KX (topRead_of T) ex hv hn ⟨rfl, H.isA, ?_⟩ hk hxk hdb))
  rw [if_pos rfl]
  exact H.lands fun h' F' N' => wpAny_passesOwnAt hE (k h' F' N')
theorem lines_U2_3 : True := by
  k_with "handleBy" => ((with_reducible rename TT.HeldNA _ _ _ _ _ _ _ _ => ttN); (with_unfolding_all refine' clause_B ttN ?zqX ?zqT ?zqex ?_; (case zqX => k_asm); (case zqT => k_asm); (case zqex => k_is)); clear ttN; (try (with_reducible rename HeldAt _ _ _ _ _ _ _ => ttH; clear ttH)); intro h' F' N')
  trivial
noncomputable def lawEnv (cn : Str) (sc : Scope) (L a : Addr) (cd : Value) (cs : List (Str × Addr)) : Env := envX cn sc L a cd cs
noncomputable def DiffPost (g : Heap) (L b : Addr) (m : Str → Option Value) (s : Shared) (r : List Str × List Str) (v : Value) (s' : Shared) : Prop := ∃ T M vm vb nm nb h tk, v = .ref T ∧ s' = { s with heap := h, toks := tk } ∧ h.get? T = some (tupleO #[.ref M, .ref b]) ∧
  h.get? M = some (listOf (List.toArray vm) nm) ∧ h.get? b = some (listOf (List.toArray vb) nb) ∧ StrsAre vm r.1 ∧ StrsAre vb r.2 ∧ h.Ns L m ∧ T ≠ L
set_option maxHeartbeats 4000000 in
theorem c_diff0 {w : World} {s : Shared} {g : Heap} {mg mb m : Str → Option Value} {L ea eb a : Addr} {cn : Str} {sc : Scope} {cd : Value} {cs : List (Str × Addr)} {va vb : List Value} {xa xb : List Str} {na nb : Nat} (hk : sc.kind = .function)
    (B : Bs w mg mb g) (F₀ : Fr g L s.heap m) (ha : s.heap.get? ea = some (listOf va.toArray na)) (hb : s.heap.get? eb = some (listOf vb.toArray nb)) (sa : StrsAre va xa) (sb : StrsAre vb xb) (hla : xa.length ≤ 100) (hlb : xb.length ≤ 100)
    (n1 : g.get? ea = none) (n2 : g.get? eb = none) (h12 : @Ne Nat ea eb) (h1L : @Ne Nat ea L) (h2L : @Ne Nat eb L) :
    wpAny (model P w) (callerA.deeper (envX cn sc L a cd cs)) (call (.ref 75) [.ref ea, .ref eb]) (fun v s' => Parked (DiffPost g L eb m s (diffGo xa.reverse xb) v s' ∧ ∀ b o, b ≠ ea → b ≠ eb → b ≠ L → s.heap.get? b = some o → s'.heap.get? b = some o)) (fun _ _ => False) s := by
  refine by_G fun G_ back_ => ?_
  obtain ⟨oL, es, ep, hL, hLd, hLk, hLf⟩ := F₀.ns
  refine back_ ?_
  clear back_ G_
  have nL : g.get? L = none := Heap.get?_none_of_le F₀.above
  have tiC : TI.Caller g L m oL := ⟨fun h' sl e => ⟨_, es, ep, e, hLd, hLk, hLf⟩, ⟨es, ep, hLd⟩, F₀.above⟩
  have tiF : TI.Frs [envX cn sc L a cd cs] [(L, oL)] := ⟨by show sc.kind ≠ .module; rw [hk]; decide, rfl, ⟨es, ep, hLd⟩, trivial⟩
  have kg : ∀ b o, g.get? b = some o → (hideAll s.heap [ea, eb, L]).get? b = some o := fun b o e => hideAll_get _ (F₀.keep b o e) (by
    intro q
    rcases List.mem_cons.mp q with rfl | q
    · rw [n1] at e; cases e
    · rcases List.mem_cons.mp q with rfl | q
      · rw [n2] at e; cases e
      · rw [List.mem_singleton.mp q, nL] at e; cases e)
  have B' : Bs w mg mb (hideAll s.heap [ea, eb, L]) := B.keeps kg
  have X := B'.x
  refine by_G fun G_ back_ => ?_
  obtain ⟨loose, mean, T⟩ := B'.t
  refine back_ ?_
  clear back_ G_
  refine wpAny_call ?_
  refine' enterG (g := hideAll s.heap [ea, eb, L]) (binds := [(Str.ofString "expected", .ref ea), (Str.ofString "actual", .ref eb)]) X T.nolimit (fun b o e => of_hideAll _ e) (Nat.le_of_eq (hideAll_size _ _)) ?k6 ?k7 ?k8 ?k9 ?kB ?_ ?c2 ?c3 ?c4 ?c5
  walk_at "mine in"
  intro h₁ F kk
  have l1 : @LT.lt Nat _ ea s.heap.objs.size := Heap.lt_size ha
  have l2 : @LT.lt Nat _ eb s.heap.objs.size := Heap.lt_size hb
  have l3 : @LT.lt Nat _ L s.heap.objs.size := Heap.lt_size hL
  have N : News (hideAll s.heap [ea, eb, L]) s.heap.objs.size h₁ [(ea, listOf va.toArray na), (eb, listOf vb.toArray nb), (L, oL)] := fun p hp => by
    rcases List.mem_cons.mp hp with rfl | hp
    · exact ⟨kk _ _ ha, Nat.ne_of_lt l1, hideAll_none _ (.head _)⟩
    · rcases List.mem_cons.mp hp with rfl | hp
      · exact ⟨kk _ _ hb, Nat.ne_of_lt l2, hideAll_none _ (.tail _ (.head _))⟩
      · rw [List.mem_singleton.mp hp]; exact ⟨kk _ _ hL, Nat.ne_of_lt l3, hideAll_none _ (.tail _ (.tail _ (.head _)))⟩
  (try dsimp only)
  (try k_fold)
  clear kk ha hb
  k_steps
  rename_i l _ hl _ F₁ N₁
  refine While_inv (fun n m₁ nw => ∃ ua ub um na nb nm oL' u r ys zs, nw = [(l, listOf (List.toArray um) nm), (ea, listOf (List.toArray ua) na), (eb, listOf (List.toArray ub) nb), (L, oL')] ∧ StrsAre ua r ∧ StrsAre ub ys ∧ StrsAre um zs ∧ r.length = n ∧ ys.length ≤ 100 ∧ zs.length + r.length ≤ 100 ∧
      (zs ++ (diffGo r.reverse ys).1, (diffGo r.reverse ys).2) = diffGo xa.reverse xb ∧ TI.Caller g L m oL' ∧ TI.Frs [envX cn sc L a cd cs] [(L, oL')] ∧
      m₁ = fun y => if y = Str.ofString "item" then u else if y = Str.ofString "missing" then some (Value.ref l) else List.lookup y [(Str.ofString "expected", Value.ref ea), (Str.ofString "actual", Value.ref eb)].reverse) (n₀ := xa.length) F₁ N₁ ?_ ?_
  · refine ⟨va, vb, [], na, nb, 0, oL, none, xa, xb, [], rfl, sa, sb, .nil, rfl, hlb, by simpa using hla, by simp, tiC, tiF, ?_⟩
    funext y
    by_cases h1 : y = Str.ofString "item"
    · subst h1; rfl
    · rw [if_neg h1]
  · clear tiC tiF F₁ N₁ hL hLd hLk hLf
    intro n m₁ nw h₂ tk₂ F₂ N₂ hpat1
    refine by_G fun G_ back_ => ?_
    obtain ⟨ua, ub, um, na, nb, nm, oL', u, r, ys, zs, rfl, sr, sy, sz, hn, hy, hz, hgo, tiC, tiF, rfl⟩ := hpat1
    refine back_ ?_
    clear back_ G_
    rcases List.eq_nil_or_concat r with rfl | ⟨r', x, rfl⟩
    · cases sr
      k_steps
      rename_i D' h' F' N' hlt
      simp only [List.reverse_nil, diffGo, List.append_nil] at hgo
      rw [← hgo]
      have kk' : ∀ b o, b ≠ ea → b ≠ eb → b ≠ L → s.heap.get? b = some o → h'.get? b = some o := fun b o q1 q2 q3 e => F'.keep b o (hideAll_get _ e (by
        intro q
        rcases List.mem_cons.mp q with q | q
        · exact q1 q
        · rcases List.mem_cons.mp q with q | q
          · exact q2 q
          · exact q3 (List.mem_singleton.mp q)))
      exact ⟨⟨D', l, um, ub, nm, nb, h', _, rfl, rfl, (N' _ (.head _)).1, (N' _ (.tail _ (.head _))).1, (N' _ (.tail _ (.tail _ (.tail _ (.head _))))).1, sz, sy, tiC.ns h' oL'.slots (N' _ (.tail _ (.tail _ (.tail _ (.tail _ (.head _)))))).1, Nat.ne_of_gt hlt.2.2.2⟩, kk'⟩
    · rw [List.concat_eq_append] at sr hn hz hgo
      refine by_G fun G_ back_ => ?_
      obtain ⟨us, t, rfl, sr'⟩ := strs_last sr rfl
      refine back_ ?_
      clear back_ G_
      have hul := strs_len sr'
      have hyl := strs_len sy
      have hzl := strs_len sz
      rw [List.length_append, List.length_singleton] at hn hz
      rw [List.reverse_append, List.reverse_singleton, List.singleton_append] at hgo
      have hu100 : us.length ≤ 100 := by omega
      have hb100 : ub.length ≤ 100 := by omega
      have hm100 : um.length ≤ 100 := by omega
      k_steps
      · rename (List.any _ _) = true => hin
        rw [diffGo, if_pos hin] at hgo
        refine WhileStep.intro (n' := r'.length) (by assumption) (by assumption) (by omega) ⟨us, vs', um, _, _, _, oL', some (.str x t), r', ys.erase x, zs, rfl, sr', hs', sz, rfl, Nat.le_trans List.length_erase_le hy, by omega, hgo, tiC, tiF, ?_⟩
        funext y
        by_cases h1 : y = Str.ofString "item"
        · simp only [if_pos h1]
        · simp only [if_neg h1]
      · rename ¬ (List.any _ _) = true => hin
        rename TI.Caller _ _ _ _ => tiC
        rename Array (Option Value) => sl
        rw [diffGo, if_neg hin] at hgo
        refine WhileStep.intro (n' := r'.length) (by assumption) (by assumption) (by omega) ⟨us, ub, um ++ [.str x t], na + 1, nb, nm + 1, { oL' with slots := sl }, some (.str x t), r', ys, zs ++ [x], ?_, sr', sy, strs_snoc sz x t, rfl, hy, by rw [List.length_append, List.length_singleton]; omega, ?_, ⟨fun h sl' e => tiC.ns h sl' e, tiC.dict, tiC.above⟩, by assumption, ?_⟩
        · simp
        · rw [List.append_assoc]; exact hgo
        · funext y
          by_cases h1 : y = Str.ofString "item"
          · simp only [if_pos h1]
          · simp only [if_neg h1]
end
-- LX0
section
open PyProof.Rows.LCg (lst lst_snoc)
noncomputable def defBody : Stmt → List Stmt
  | .FunctionDef _ _ b _ _ _ _ _ _ _ => b
  | _ => []
noncomputable def defScope : Stmt → Scope
  | .FunctionDef _ _ _ _ _ _ sc _ _ _ => sc
  | _ => { kind := .module, names := [], isGenerator := false, isCoroutine := false }
noncomputable def lastOf : List Stmt → Stmt
  | [] => .Pass ⟨0, 0, 0, 0⟩
  | [x] => x
  | _ :: y :: r => lastOf (y :: r)
noncomputable def lawDef : Stmt := lastOf PySem.Challenge.pw_oh0023_01.main.body
noncomputable def lawBody : List Stmt := defBody lawDef
noncomputable def lawSc : Scope := defScope lawDef
noncomputable def atOf : List Stmt → Nat → Stmt
  | [], _ => .Pass ⟨0, 0, 0, 0⟩
  | x :: _, 0 => x
  | _ :: r, n + 1 => atOf r n
noncomputable def lawSt (n : Nat) : Stmt := atOf lawBody n
noncomputable abbrev lawCs (L : Addr) : List (Str × Addr) := cellsFrom (L + 1) lawSc.names []
noncomputable abbrev lawE (L : Addr) : Env := envX (Str.ofString "law") lawSc L 125 (.ref 124) (lawCs L)

/-! law's state by lists -/
noncomputable abbrev lk (ml : List (Str × Value)) : Str → Option Value := fun y => ml.lookup y
theorem lk_cons {x : Str} {v : Value} {ml : List (Str × Value)} : (fun y => if y = x then some v else lk ml y) = lk ((x, v) :: ml) := by
  funext y
  show _ = List.lookup y ((x, v) :: ml)
  rw [List.lookup_cons]
  by_cases h : y = x
  · rw [if_pos h, show (y == x) = true from beq_iff_eq.mpr h]
  · rw [if_neg h, show (y == x) = false from beq_eq_false_iff_ne.mpr h]
theorem allLt_mem {d : Nat} {l : List (Addr × Obj)} : AllLt d l → ∀ p ∈ l, @LT.lt Nat _ p.1 d := by
  induction l with
  | nil => intro _ p hp; cases hp
  | cons q r ih =>
    intro h p hp
    rcases List.mem_cons.mp hp with rfl | hp
    · exact h.1
    · exact ih h.2 p hp
noncomputable abbrev LZ (g : Heap) (L : Addr) (s₁ s : Shared) (ml cl : List (Str × Value)) : Prop := LS g L (lawCs L) s₁ s (lk ml) (lk cl)
noncomputable abbrev LFZ (w : World) (mg mb : Str → Option Value) (g : Heap) (L : Addr) : Prop := LF w mg mb g L (lawCs L)
noncomputable abbrev StayZ (L : Addr) (s s' : Shared) : Prop := Stay L (lawCs L) s s'
noncomputable abbrev SafeZ (L : Addr) (b : Addr) : Prop := Safe L (lawCs L) b
/-- a new object -/
structure Has (g : Heap) (L : Addr) (s : Shared) (a : Addr) (o : Obj) : Prop where
  safe : SafeZ L a
  new : g.get? a = none
  at' : s.heap.get? a = some o
theorem Has.stay {g : Heap} {L : Addr} {s s' : Shared} {a : Addr} {o : Obj} (h : Has g L s a o) (st : StayZ L s s') : Has g L s' a o := ⟨h.safe, h.new, st _ _ h.safe h.at'⟩
/-- objects that bear something -/
noncomputable def Sup (L : Addr) (s : Shared) (sp : List (Addr × Obj)) : Prop := ∀ q ∈ sp, SafeZ L q.1 ∧ s.heap.get? q.1 = some q.2
theorem Sup.stay {L : Addr} {s s' : Shared} {sp : List (Addr × Obj)} (h : Sup L s sp) (st : StayZ L s s') : Sup L s' sp := fun q hq => ⟨(h q hq).1, st _ _ (h q hq).1 (h q hq).2⟩
theorem Sup.supp {L : Addr} {s : Shared} {sp : List (Addr × Obj)} (h : Sup L s sp) : Supp s.heap sp := fun q hq => (h q hq).2
theorem Stay.refl {L : Addr} {cs : List (Str × Addr)} {s : Shared} : Stay L cs s s := fun _ _ _ e => e
section
variable {M : Model} {A : Around} {E : Value → Shared → Prop} {w : World} {mg mb : Str → Option Value} {g : Heap} {L : Addr} {s₁ s s' : Shared} {ml cl : List (Str × Value)} {x : Str} {px pos : Pos} {e : Expr}
/-- after a walk of an expression in law's frame over an opaque rest -/
theorem LS.walk (f : LFZ w mg mb g L) (S : LZ g L s₁ s ml cl) {h' : Heap} {tk : Nat} {m : Str → Option Value} (hm : m = lk ml) (F' : Fr g L h' m) (N' : News g L h' (restC g L s.heap)) : LZ g L s₁ { s with heap := h', toks := tk } ml cl ∧ StayZ L s { s with heap := h', toks := tk } := by
  subst hm
  have k : ∀ b o, b ≠ L → s.heap.get? b = some o → h'.get? b = some o := fun b o hb e => keep_rest S.fr F' N' b o hb e
  obtain ⟨oL, e, nc⟩ := notCode_ns S.fr.ns
  exact ⟨⟨F', fun x c h => (let ⟨o, q, d⟩ := S.cell x c h; ⟨o, k _ _ (f.ne98 h).2.2 q, d⟩), S.ti.change k e nc (Nat.ne_of_gt f.l98) (Nat.ne_of_gt f.l16), S.bare, S.os⟩, fun b o hb q => k b o hb.1 q⟩
/-- x = e, x a cell -/
theorem set_cell (f : LFZ w mg mb g L) {R : Value → Shared → Prop} {Q : Flow → Shared → Prop} {c : Addr} (hc : (lawCs L).lookup x = some c) (hx : (lawE L).kindOf x = some .cell)
    (h : wpAny M A (eval e (lawE L)) (fun v s' => Parked (LZ g L s₁ s' ml cl ∧ StayZ L s s' ∧ R v s')) E s)
    (hQ : ∀ v s' s'', LZ g L s₁ s'' ml ((x, v) :: cl) → StayZ L s s'' → StayZ L s' s'' → R v s' → Q .next s'')
    (hs : swapsWith e (some (.Name x px)) pos.line (lawE L) = pure false) :
    wpAny M A (exec (.Assign [.Name x px] e pos) (lawE L)) Q E s := by
  refine wpAny_Assign_Name (wpAny_mono h (fun v s' hv => ?_) fun _ _ q => q) hs
  obtain ⟨S, st₀, hR⟩ := hv
  obtain ⟨o, e, d⟩ := S.cell x c hc
  refine wpAny_storeName_cell rfl hx hc ⟨o, e, d⟩ fun h' hv hs => ?_
  obtain ⟨S', st⟩ := S.setC f hc hv hs
  rw [lk_cons] at S'
  exact hQ v s' _ S' (st₀.trans st) st hR
/-- x = e, x local -/
theorem set_local (f : LFZ w mg mb g L) {R : Value → Shared → Prop} {Q : Flow → Shared → Prop} (hx : (lawE L).kindOf x = some .local)
    (h : wpAny M A (eval e (lawE L)) (fun v s' => Parked (LZ g L s₁ s' ml cl ∧ StayZ L s s' ∧ R v s')) E s)
    (hQ : ∀ v s' s'', LZ g L s₁ s'' ((x, v) :: ml) cl → StayZ L s s'' → StayZ L s' s'' → R v s' → Q .next s'')
    (hs : swapsWith e (some (.Name x px)) pos.line (lawE L) = pure false) :
    wpAny M A (exec (.Assign [.Name x px] e pos) (lawE L)) Q E s := by
  refine wpAny_Assign_Name (wpAny_mono h (fun v s' hv => ?_) fun _ _ q => q) hs
  obtain ⟨S, st₀, hR⟩ := hv
  refine wpAny_storeName_local hx S.fr.ns (fun h' hn hs => ?_) rfl
  obtain ⟨S', st⟩ := S.setL (tk := s'.toks + 1) f hn hs
  rw [lk_cons] at S'
  exact hQ v s' _ S' (st₀.trans st) st hR
/-- what fills the ledger at a statement of law's -/
theorem LS.news (f : LFZ w mg mb g L) (S : LZ g L s₁ s ml cl) {sp : List (Addr × Obj)} (h : ∀ q ∈ sp, s.heap.get? q.1 = some q.2 ∧ q.1 ≠ L ∧ g.get? q.1 = none) : News g L s.heap (sp ++ restC g L s.heap) := fun p hp => by
  rcases List.mem_append.mp hp with hp | hp
  · exact ⟨(h p hp).1, (h p hp).2⟩
  · exact news_ownOf (fun q => by simpa using (List.mem_filter.mp q).2) p hp
theorem LS.cellAt (f : LFZ w mg mb g L) (S : LZ g L s₁ s ml cl) {c : Addr} {v : Value} (hc : (lawCs L).lookup x = some c) (hv : cl.lookup x = some v) : ∃ o, s.heap.get? c = some o ∧ o.data = .cell (some v) ∧ c ≠ L ∧ g.get? c = none ∧ c ≠ 98 ∧ c ≠ 16 := by
  obtain ⟨o, e, d⟩ := S.cell x c hc
  exact ⟨o, e, by rw [d, show lk cl x = some v from hv], (f.ne98 hc).2.2, Heap.get?_none_of_le (Nat.le_of_lt (Nat.lt_of_le_of_lt S.fr.above (f.above x c hc))), (f.ne98 hc).1, (f.ne98 hc).2.1⟩
theorem mem_restC {h₀ h : Heap} {C b : Addr} {o : Obj} (hb : b ≠ C) (q : h₀.get? b = none) (e : h.get? b = some o) : (b, o) ∈ restC h₀ C h :=
  mem_ownOf (List.mem_filter.mpr ⟨List.mem_range.mpr (Heap.lt_size e), by simpa using hb⟩) q e
theorem LS.safeLt (f : LFZ w mg mb g L) (S : LZ g L s₁ s ml cl) {D : Addr} (h : AllLt D (restC g L s.heap)) (hL : D ≠ L) : SafeZ L D := by
  have lt : ∀ b o, b ≠ L → g.get? b = none → s.heap.get? b = some o → b ≠ D := fun b o h1 h2 h3 => Nat.ne_of_lt (allLt_mem h _ (mem_restC h1 h2 h3))
  obtain ⟨⟨p1, e1, _⟩, ⟨p2, e2, _⟩⟩ := S.ti
  refine ⟨hL, fun x c hc z => ?_, fun z => lt _ _ (Nat.ne_of_lt f.l98) f.n98 e1 z.symm, fun z => lt _ _ (Nat.ne_of_lt f.l16) f.n16 e2 z.symm⟩
  obtain ⟨o, e, d⟩ := S.cell x c hc
  exact lt c o (f.ne98 hc).2.2 (Heap.get?_none_of_le (Nat.le_of_lt (Nat.lt_of_le_of_lt S.fr.above (f.above x c hc)))) e z.symm
/-- the end of a walk in law's frame: the newest object -/
theorem walk_end (f : LFZ w mg mb g L) (S : LZ g L s₁ s ml cl) {h' : Heap} {tk : Nat} {m : Str → Option Value} {D : Addr} {o : Obj} {new : List (Addr × Obj)} {R : Value → Shared → Prop} (F' : Fr g L h' m) (N' : News g L h' ((D, o) :: new)) (hm : m = lk ml) (hs : ∀ q ∈ restC g L s.heap, q ∈ new) (hlt : AllLt D (restC g L s.heap))
    (h : Has g L { s with heap := h', toks := tk } D o → R (.ref D) { s with heap := h', toks := tk }) : Parked (LZ g L s₁ { s with heap := h', toks := tk } ml cl ∧ StayZ L s { s with heap := h', toks := tk } ∧ R (.ref D) { s with heap := h', toks := tk }) := by
  obtain ⟨S', st⟩ := S.walk (tk := tk) f hm F' (fun p hp => N' p (.tail _ (hs p hp)))
  have z := N' _ (.head _)
  exact ⟨S', st, h ⟨S.safeLt f hlt z.2.1, z.2.2, z.1⟩⟩
theorem LS.safeFresh (f : LFZ w mg mb g L) (S : LZ g L s₁ s ml cl) (S' : LZ g L s₁ s' ml cl) {q : Addr × Obj} (hq : FreshO s.heap q) (e : s'.heap.get? q.1 = some q.2) : SafeZ L q.1 := by
  obtain ⟨n1, n2, r⟩ := hq
  rcases r with r | ⟨vs, x, t, r1, r2⟩
  · exact S.safe f r n1 n2
  · refine ⟨fun z => ?_, fun x c hc z => ?_, n1, n2⟩
    · obtain ⟨oL, e', nc⟩ := notCode_ns S'.fr.ns
      rw [z, show s'.heap.get? L = some oL from e'] at e
      cases e
      exact nc _ _ _ r1 r2
    · obtain ⟨o, e', d⟩ := S'.cell x c hc
      rw [z, show s'.heap.get? c = some o from e'] at e
      cases e
      rw [r1] at d; cases d
end
/-! comprehensions in law's frame -/
section
variable {w : World} {A : Around} {mg mb : Str → Option Value} {g : Heap} {L : Addr} {s₁ s : Shared} {ml cl : List (Str × Value)} {elt iter : Expr} {x : Str} {px pos : Pos} {ifs : List Expr} {scope : Scope} {cs : List (Str × Addr)}
noncomputable abbrev Turn (s : Shared) (C : Addr) (x : Str) (v : Value) (s₂ : Shared) (m₂ : Str → Option Value) : Prop := Fr (baseOf s.heap) C s₂.heap m₂ ∧ News (baseOf s.heap) C s₂.heap (restC (baseOf s.heap) C s₂.heap) ∧ m₂ x = some v ∧ TI s₂.heap ∧ AllBare s₂.gens ∧ C ≠ 98 ∧ C ≠ 16
theorem comp_Z {Q : Value → Shared → Prop} {E : Value → Shared → Prop} (f : LFZ w mg mb g L) (S : LZ g L s₁ s ml cl) {ax : Addr} {vs : List Value} {n : Nat} (p : Value → Bool) (G : Value → Value → List (Addr × Obj) → Prop)
    (hh : A.handled = none) (hclos : closureFor scope (lawE L) = pure cs) (hcell : ∀ y ∈ scope.names, y.2 ≠ .cell) (hkind : scope.kind = .function)
    (hnames : ∀ y ∈ scope.names, y.2 = .local → scope.names.lookup y.1 = some .local) (hx : scope.names.lookup x = some .local)
    (hi : wpAny (model P w) A (eval iter (lawE L)) (fun xv s' => Parked (xv = .ref ax ∧ ∃ tk, s' = { s with toks := tk })) E s)
    (hax : s.heap.get? ax = some (W.listOf vs.toArray n)) (hlen : vs.length ≤ 100)
    (ht : ∀ C v s₂ m₂, v ∈ vs → Turn s C x v s₂ m₂ →
        wpAny (model P w) A (forIn ifs true fun c r => if r = true then do let ok ← isTrue c (compEnvC scope cs C (lawE L)) (eval c (compEnvC scope cs C (lawE L))); pure (ForInStep.yield ok) else pure (ForInStep.yield r)) (fun ok s₃ => Parked (ok = p v ∧ KeepC C x v s₂ s₃)) (fun _ _ => False) s₂)
    (he : ∀ C v s₂ m₂, v ∈ vs → p v = true → Turn s C x v s₂ m₂ →
        wpAny (model P w) A (eval elt (compEnvC scope cs C (lawE L))) (fun y s₃ => Parked (ExtC C s₂ s₃ ∧ ∃ sp, G v y sp ∧ Supp s₃.heap sp ∧ ∀ q ∈ sp, FreshO s₂.heap q)) (fun _ _ => False) s₂)
    (hQ : ∀ D ys s', LZ g L s₁ s' ml cl → StayZ L s s' → Has g L s' D (lst ys) → All2 (fun v y => ∃ sp, G v y sp ∧ Sup L s' sp) (vs.filter p) ys → Q (.ref D) s')
    (hs : ∀ x, foldedSetIterable iter (lawE L) x = pure x := by intro _; rfl) :
    wpAny (model P w) A (eval (.ListComp elt [⟨.Name x px, iter, ifs, 0⟩] scope pos) (lawE L)) Q E s := by
  have lt98 := (ti_lt S.ti).1
  have lt16 := (ti_lt S.ti).2
  refine comp_list p G hh hclos hcell hkind hnames hx (wpAny_mono hi (fun xv s' hv => ?_) fun _ _ q => q) hs
  refine by_G fun G_ back_ => ?_
  obtain ⟨rfl, tk, rfl⟩ := hv
  refine back_ ?_
  clear back_ G_
  refine ⟨ax, vs.toArray, rfl, ⟨_, hax, rfl, _, rfl⟩, by rw [List.size_toArray]; exact Nat.le_trans hlen (by decide), S.ti, S.bare, ?_, ?_, ?_⟩
  · intro C v s₂ m₂ hv hn hm hCs X₂
    refine by_G fun G_ back_ => ?_
    obtain ⟨F₂, N₂⟩ := turn_start X₂ hn hCs
    refine back_ ?_
    clear back_ G_
    exact ht C v s₂ m₂ hv ⟨F₂, N₂, hm, X₂.ti, X₂.bare, Nat.ne_of_gt (Nat.lt_of_lt_of_le lt98 hCs), Nat.ne_of_gt (Nat.lt_of_lt_of_le lt16 hCs)⟩
  · intro C v s₂ m₂ hv hp hn hm hCs X₂
    refine by_G fun G_ back_ => ?_
    obtain ⟨F₂, N₂⟩ := turn_start X₂ hn hCs
    refine back_ ?_
    clear back_ G_
    exact he C v s₂ m₂ hv hp ⟨F₂, N₂, hm, X₂.ti, X₂.bare, Nat.ne_of_gt (Nat.lt_of_lt_of_le lt98 hCs), Nat.ne_of_gt (Nat.lt_of_lt_of_le lt16 hCs)⟩
  · intro D ys s' hD n1 n2 X hget hall
    have S0 : LZ g L s₁ { s with toks := tk } ml cl := ⟨S.fr, S.cell, S.ti, S.bare, S.os⟩
    refine by_G fun G_ back_ => ?_
    obtain ⟨S', st⟩ := S0.ext f X
    refine back_ ?_
    clear back_ G_
    refine hQ D ys s' S' st ⟨S.safe f hD n1 n2, ?_, hget⟩ (hall.mono fun v y ⟨sp, h1, h2, h3⟩ => ⟨sp, h1, fun q hq => ⟨S0.safeFresh f S' (h3 q hq) (h2 q hq), h2 q hq⟩⟩)
    cases q : g.get? D with
    | none => rfl
    | some o => rw [show s.heap.get? D = some o from S.fr.keep _ _ q] at hD; cases hD
theorem keepC_extC {C : Addr} {v : Value} {s₂ s₃ : Shared} {m₂ : Str → Option Value} (T : Turn s C x v s₂ m₂) (k : KeepC C x v s₂ s₃) : ExtC C s₂ s₃ := k.extC T.2.2.2.1 T.2.2.2.2.1 T.1.ns T.2.2.2.2.2.1 T.2.2.2.2.2.2
/-- the elements are values -/
theorem comp_V {Q : Value → Shared → Prop} {E : Value → Shared → Prop} (f : LFZ w mg mb g L) (S : LZ g L s₁ s ml cl) {ax : Addr} {vs : List Value} {n : Nat} (p : Value → Bool) (R : Value → Value → Prop)
    (hh : A.handled = none) (hclos : closureFor scope (lawE L) = pure cs) (hcell : ∀ y ∈ scope.names, y.2 ≠ .cell) (hkind : scope.kind = .function)
    (hnames : ∀ y ∈ scope.names, y.2 = .local → scope.names.lookup y.1 = some .local) (hx : scope.names.lookup x = some .local)
    (hi : wpAny (model P w) A (eval iter (lawE L)) (fun xv s' => Parked (xv = .ref ax ∧ ∃ tk, s' = { s with toks := tk })) E s)
    (hax : s.heap.get? ax = some (W.listOf vs.toArray n)) (hlen : vs.length ≤ 100)
    (ht : ∀ C v s₂ m₂, v ∈ vs → Turn s C x v s₂ m₂ →
        wpAny (model P w) A (forIn ifs true fun c r => if r = true then do let ok ← isTrue c (compEnvC scope cs C (lawE L)) (eval c (compEnvC scope cs C (lawE L))); pure (ForInStep.yield ok) else pure (ForInStep.yield r)) (fun ok s₃ => Parked (ok = p v ∧ KeepC C x v s₂ s₃)) (fun _ _ => False) s₂)
    (he : ∀ C v s₂ m₂, v ∈ vs → p v = true → Turn s C x v s₂ m₂ →
        wpAny (model P w) A (eval elt (compEnvC scope cs C (lawE L))) (fun y s₃ => Parked (R v y ∧ KeepC C x v s₂ s₃)) (fun _ _ => False) s₂)
    (hQ : ∀ D ys s', LZ g L s₁ s' ml cl → StayZ L s s' → Has g L s' D (lst ys) → All2 R (vs.filter p) ys → Q (.ref D) s')
    (hs : ∀ x, foldedSetIterable iter (lawE L) x = pure x := by intro _; rfl) :
    wpAny (model P w) A (eval (.ListComp elt [⟨.Name x px, iter, ifs, 0⟩] scope pos) (lawE L)) Q E s :=
  comp_Z f S p (fun v y sp => sp = [] ∧ R v y) hh hclos hcell hkind hnames hx hi hax hlen ht
    (fun C v s₂ m₂ hv hp T => wpAny_mono (he C v s₂ m₂ hv hp T) (fun y s₃ hy => ⟨keepC_extC T hy.2, [], ⟨rfl, hy.1⟩, (fun q hq => by cases hq), (fun q hq => by cases hq)⟩) fun _ _ q => q)
    (fun D ys s' S' st hD hall => hQ D ys s' S' st hD (hall.mono fun v y ⟨sp, h1, _⟩ => h1.2)) hs
theorem no_test {C : Addr} {v : Value} {s₂ : Shared} {m₂ : Str → Option Value} {env : Env} (T : Turn s C x v s₂ m₂) :
    wpAny (model P w) A (forIn ([] : List Expr) true fun c r => if r = true then do let ok ← isTrue c env (eval c env); pure (ForInStep.yield ok) else pure (ForInStep.yield r)) (fun ok s₃ => Parked (ok = (fun _ : Value => true) v ∧ KeepC C x v s₂ s₃)) (fun _ _ => False) s₂ :=
  wpAny_tests_nil ⟨rfl, _, _, _, rfl, fun _ _ _ e => e, T.1.ns, T.2.2.1⟩
end
end
-- LX1
section
open PyProof.Rows.LCg (lst lst_snoc)
/-! what a list bears -/
noncomputable def HInts (g : Heap) (L : Addr) (s : Shared) (a : Addr) (is : List Int) : Prop := ∃ vs n, Has g L s a (W.listOf (List.toArray vs) n) ∧ IntsAre vs is
noncomputable def HStrs (g : Heap) (L : Addr) (s : Shared) (a : Addr) (xs : List Str) : Prop := ∃ vs n, Has g L s a (W.listOf (List.toArray vs) n) ∧ StrsAre vs xs
noncomputable def HOpts (g : Heap) (L : Addr) (s : Shared) (a : Addr) (xs : List (Option Int)) : Prop := ∃ vs n, Has g L s a (W.listOf (List.toArray vs) n) ∧ All2 OptInt vs xs
theorem HInts.stay {g : Heap} {L a : Addr} {s s' : Shared} {is : List Int} (h : HInts g L s a is) (st : StayZ L s s') : HInts g L s' a is := let ⟨vs, n, h1, h2⟩ := h; ⟨vs, n, h1.stay st, h2⟩
theorem HStrs.stay {g : Heap} {L a : Addr} {s s' : Shared} {is : List Str} (h : HStrs g L s a is) (st : StayZ L s s') : HStrs g L s' a is := let ⟨vs, n, h1, h2⟩ := h; ⟨vs, n, h1.stay st, h2⟩
theorem HOpts.stay {g : Heap} {L a : Addr} {s s' : Shared} {is : List (Option Int)} (h : HOpts g L s a is) (st : StayZ L s s') : HOpts g L s' a is := let ⟨vs, n, h1, h2⟩ := h; ⟨vs, n, h1.stay st, h2⟩
/-- the files' list: tuples -/
noncomputable def HFile (L : Addr) (s : Shared) (o q : Int) (v : Value) (x : Int) : Prop := ∃ T t1 t2 t3, v = .ref T ∧ Sup L s [(T, tupleO #[.str (shapeOf x) t1, .int (modeOf x o q) t2, .str (nmOf x) t3])]
noncomputable def HFiles (g : Heap) (L : Addr) (s : Shared) (o q : Int) (a : Addr) (ns : List Int) : Prop := ∃ vs n, Has g L s a (W.listOf (List.toArray vs) n) ∧ All2 (HFile L s o q) vs ns
theorem HFiles.stay {g : Heap} {L a : Addr} {s s' : Shared} {o q : Int} {ns : List Int} (h : HFiles g L s o q a ns) (st : StayZ L s s') : HFiles g L s' o q a ns :=
  let ⟨vs, n, h1, h2⟩ := h; ⟨vs, n, h1.stay st, h2.mono fun v x ⟨T, t1, t2, t3, e, hs⟩ => ⟨T, t1, t2, t3, e, hs.stay st⟩⟩
theorem All2.len {α β : Type} {R : α → β → Prop} {as : List α} {bs : List β} (h : All2 R as bs) : as.length = bs.length := by
  induction h with
  | nil => rfl
  | cons _ _ ih => simp [ih]
theorem All2.memL {α β : Type} {R : α → β → Prop} {as : List α} {bs : List β} (h : All2 R as bs) {a : α} (ha : a ∈ as) : ∃ b ∈ bs, R a b := by
  induction h with
  | nil => cases ha
  | cons r _ ih =>
    rcases List.mem_cons.mp ha with rfl | ha
    · exact ⟨_, .head _, r⟩
    · obtain ⟨b, hb, q⟩ := ih ha; exact ⟨b, .tail _ hb, q⟩
theorem All2.getR {α β : Type} {R : α → β → Prop} {as : List α} {bs : List β} (h : All2 R as bs) : ∀ (i : Nat) (b : β), bs[i]? = some b → ∃ a, as[i]? = some a ∧ R a b := by
  induction h with
  | nil => intro i b hb; simp at hb
  | cons r _ ih =>
    intro i b hb
    cases i with
    | zero => simp at hb; subst hb; exact ⟨_, rfl, r⟩
    | succ i => simpa using ih i b (by simpa using hb)
/-! steps -/
section
variable {prog : Program} {w : World} {A : Around} {E : Value → Shared → Prop} {s : Shared} {h₀ : Heap} {L D : Addr} {m : Str → Option Value} {news : List (Addr × Obj)} {n : Nat} {us : List Value} {Q : Value → Shared → Prop}
theorem len_any (N : News h₀ L s.heap news) (hm : (D, listOf us.toArray n) ∈ news) (hz : us.length ≤ 100)
    (h : ∀ t tk, Q (.int us.length t) { s with toks := tk }) : wpAny (model prog w) A (call (.builtin "len") [.ref D]) Q E s :=
  len_list (items := us.toArray) ⟨_, (N _ hm).1, rfl, _, rfl⟩ (by simp; omega) (by simpa using h _ _)
/-- an item of a base tuple -/
theorem item_tup {value slice : Expr} {its : List Value} {k : Int} {u : Tok} {x : Value} (F : Fr h₀ L s.heap m) (hT : h₀.get? D = some (tupleO its.toArray)) (h0 : 0 ≤ k) (hx : its[k.toNat]? = some x) (hl : its.length ≤ 100) (h : Q x s)
    (hs : subscripted slice false (.ref D) (.int k u) = operate [.ref D, .int k u] (getItem (.ref D) (.int k u)) := by with_unfolding_all rfl) :
    wpAny (model prog w) A (subscriptTail value slice (.ref D) (.int k u)) Q E s := by
  have hk : k.toNat < its.length := (List.getElem?_eq_some_iff.mp hx).1
  exact item_tupleT (l := its) ⟨_, F.keep _ _ hT, rfl, _, rfl⟩ (by omega) (by omega) (j := k.toNat) (seqIndex_of h0 (by omega)) hx h hs
/-- an item of a base list -/
theorem item_lst {value slice : Expr} {k : Int} {u : Tok} {x : Value} (F : Fr h₀ L s.heap m) (hT : h₀.get? D = some (listOf us.toArray n)) (h0 : 0 ≤ k) (hx : us[k.toNat]? = some x) (hl : us.length ≤ 100) (h : Q x s)
    (hs : subscripted slice false (.ref D) (.int k u) = operate [.ref D, .int k u] (getItem (.ref D) (.int k u)) := by with_unfolding_all rfl) :
    wpAny (model prog w) A (subscriptTail value slice (.ref D) (.int k u)) Q E s := by
  have hk : k.toNat < us.length := (List.getElem?_eq_some_iff.mp hx).1
  have hl' : s.heap.IsList D us.toArray := ⟨_, F.keep _ _ hT, rfl, _, rfl⟩
  exact tail_any hl'.typeIs slot_list_getitem.lookup (wpAny_getItem_list hl' h0 (by omega) (by simpa using hx) h) hs
end
theorem lines_LX1_1 : True := by
  k_with_none
  k_with "call builtin:len" => (k_here; k_dflt (refine' len_any ?zqN ?zqm ?zqz ?_; (case zqN => k_asm); (case zqm => k_mem); (case zqz => assumption)); intro t' tk')
  k_with "eval Name" => (k_here; (with_reducible show wpAny _ _ (eval (Expr.Name _ _) (compEnvC _ _ _ _)) _ _ _); k_dflt (first | (refine own_C (by k_asm) (by assumption) ?_) | (refine' cell_C ?zqF ?zqc ?zqm ?zqd ?_; (case zqF => k_asm); (case zqc => rfl); (case zqm => assumption); (case zqd => assumption))))
  k_with "subscriptTail" => (k_here; k_dflt (first | (refine' item_tup ?zqF ?zqT ?zqh0 ?zqx ?zql ?_; (case zqF => k_asm); (case zqT => assumption); (case zqh0 => decide); (case zqx => rfl); (case zql => exact Nat.le_of_ble_eq_true rfl))))
  trivial
theorem Sup.base {L T : Addr} {s : Shared} {o : Obj} {sp : List (Addr × Obj)} (h : Sup L s ((T, o) :: sp)) : (baseOf s.heap).get? T = some o := base_get (h _ (.head _)).2 (h _ (.head _)).1.2.2.1 (h _ (.head _)).1.2.2.2
theorem Has.base {g : Heap} {L T : Addr} {s : Shared} {o : Obj} (h : Has g L s T o) : (baseOf s.heap).get? T = some o := base_get h.at' h.safe.2.2.1 h.safe.2.2.2
noncomputable def TupAt (h : Heap) (k : Nat) (v y : Value) : Prop := ∃ T its, v = .ref T ∧ h.get? T = some (tupleO its) ∧ its[k]? = some y
theorem file_tup {L : Addr} {s : Shared} {o q : Int} {v y : Value} {x : Int} {k : Nat} (h : HFile L s o q v x) (t : TupAt s.heap k v y) : ∃ t1 t2 t3, #[Value.str (shapeOf x) t1, .int (modeOf x o q) t2, .str (nmOf x) t3][k]? = some y := by
  obtain ⟨T, t1, t2, t3, rfl, hT⟩ := h
  obtain ⟨T', its, e, h1, h2⟩ := t
  cases e
  have z := (hT _ (.head _)).2
  rw [show s.heap.get? T = _ from h1] at z
  have z' : its = #[Value.str (shapeOf x) t1, .int (modeOf x o q) t2, .str (nmOf x) t3] := by
    have := congrArg (fun o : Option Obj => o.map (·.data)) z
    simpa [tupleO] using this
  exact ⟨t1, t2, t3, z' ▸ h2⟩
theorem all2_strsOf {α : Type} {k : α → Str} {xs : List α} {ys : List Value} (x : All2 (fun a y => ∃ t, y = Value.str (k a) t) xs ys) : StrsAre ys (xs.map k) := by
  induction x with
  | nil => exact .nil
  | cons r _ ih => obtain ⟨t, rfl⟩ := r; exact .cons _ _ ih
theorem all2_comp {α β γ : Type} {R : α → β → Prop} {S : α → γ → Prop} {T : β → γ → Prop} (h : ∀ a b c, R a b → S a c → T b c) {as : List α} {bs : List β} {cs : List γ} (x : All2 R as bs) : All2 S as cs → All2 T bs cs := by
  induction x generalizing cs with
  | nil => intro y; cases y; exact .nil
  | cons r _ ih => intro y; cases y with | cons s t => exact .cons (h _ _ _ r s) (ih t)
theorem filter_true {vs : List Value} : vs.filter (fun _ => true) = vs := List.filter_eq_self.mpr fun _ _ => rfl
theorem st_places {w : World} {mg mb : Str → Option Value} {g : Heap} {L Fa : Addr} {s₁ s : Shared} {ml cl : List (Str × Value)} {o q : Int} {ns : List Int} (f : LFZ w mg mb g L) (S : LZ g L s₁ s ml cl)
    (hF : cl.lookup (Str.ofString "files") = some (.ref Fa)) (hf : HFiles g L s o q Fa ns) (hlen : ns.length ≤ 100) :
    wpAny (model P w) (callerA.deeper (lawE L)) (exec (lawSt 6) (lawE L)) (fun fl s' => fl = .next ∧ ∃ Pa, LZ g L s₁ s' ((Str.ofString "places", .ref Pa) :: ml) cl ∧ StayZ L s s' ∧ HInts g L s' Pa (rangeKs 0 ns.length)) (fun _ _ => False) s := by
  refine by_G fun G_ back_ => ?_
  obtain ⟨vs, n, hl, hall⟩ := hf
  refine back_ ?_
  clear back_ G_
  have hvl := hall.len
  conv => arg 3; arg 1; whnf
  refine set_local f (ml := ml) (cl := cl) (s₁ := s₁) (R := fun v s' => ∃ Pa, v = .ref Pa ∧ HInts g L s' Pa (rangeKs 0 ns.length)) rfl ?_ ?_ rfl
  · refine by_G fun G_ back_ => ?_
    obtain ⟨oc, hoc, hd, hcL, hcg, _⟩ := S.cellAt f (x := Str.ofString "files") rfl hF
    refine back_ ?_
    clear back_ G_
    have N := S.news f (sp := [(_, oc), (Fa, W.listOf vs.toArray n)]) (by
      intro q hq
      rcases List.mem_cons.mp hq with rfl | hq
      · exact ⟨hoc, hcL, hcg⟩
      · rw [List.mem_singleton.mp hq]; exact ⟨hl.at', hl.safe.1, hl.new⟩)
    simp only [List.cons_append, List.nil_append] at N
    have F := S.fr
    have X := f.B.x
    refine by_G fun G_ back_ => ?_
    obtain ⟨loose, mean, T⟩ := f.B.t
    refine back_ ?_
    clear back_ G_
    have hl100 : vs.length ≤ 100 := by omega
    k_steps
    rename_i vs' n' _ _ F' N' hI' hlt'
    refine walk_end (R := fun v s' => ∃ Pa, v = .ref Pa ∧ HInts g L s' Pa (rangeKs 0 ns.length)) f S (by assumption) (by assumption) rfl (fun p hp => .tail _ (.tail _ hp)) hlt'.2.2 fun hh => ⟨_, rfl, vs', n', hh, ?_⟩
    rw [← hvl]
    simpa using hI'
  · intro v s' s'' S' st st' ⟨Pa, hv, hh⟩
    subst hv
    exact ⟨rfl, Pa, S', st, hh.stay st'⟩
set_option maxHeartbeats 1000000 in
theorem st_shapes {w : World} {mg mb : Str → Option Value} {g : Heap} {L Fa : Addr} {s₁ s : Shared} {ml cl : List (Str × Value)} {o q : Int} {ns : List Int} (f : LFZ w mg mb g L) (S : LZ g L s₁ s ml cl)
    (hF : cl.lookup (Str.ofString "files") = some (.ref Fa)) (hf : HFiles g L s o q Fa ns) (hlen : ns.length ≤ 100) :
    wpAny (model P w) (callerA.deeper (lawE L)) (exec (lawSt 7) (lawE L)) (fun fl s' => fl = .next ∧ ∃ Pa, LZ g L s₁ s' ml ((Str.ofString "shapes", .ref Pa) :: cl) ∧ StayZ L s s' ∧ HStrs g L s' Pa (ns.map shapeOf)) (fun _ _ => False) s := by
  refine by_G fun G_ back_ => ?_
  obtain ⟨vs, n, hl, hall⟩ := hf
  refine back_ ?_
  clear back_ G_
  have hvl := hall.len
  conv => arg 3; arg 1; whnf
  refine set_cell f (ml := ml) (cl := cl) (s₁ := s₁) (R := fun v s' => ∃ Pa, v = .ref Pa ∧ HStrs g L s' Pa (ns.map shapeOf)) rfl rfl ?_ ?_ rfl
  · refine by_G fun G_ back_ => ?_
    obtain ⟨oc, hoc, hd, hcL, hcg, hc98, hc16⟩ := S.cellAt f (x := Str.ofString "files") rfl hF
    refine back_ ?_
    clear back_ G_
    refine comp_V f S (fun _ => true) (TupAt s.heap 0) rfl rfl (by decide) rfl (by decide) rfl ?_ hl.at' (by omega) (fun C v s₂ m₂ _ T => no_test T) ?_ ?_
    · have N := S.news f (sp := [(_, oc)]) (by intro q hq; rw [List.mem_singleton.mp hq]; exact ⟨hoc, hcL, hcg⟩)
      have F := S.fr
      have X := f.B.x
      refine by_G fun G_ back_ => ?_
      obtain ⟨loose, mean, T⟩ := f.B.t
      refine back_ ?_
      clear back_ G_
      k_steps
      exact ⟨rfl, _, rfl⟩
    · intro C v s₂ m₂ hv _ Tn
      refine by_G fun G_ back_ => ?_
      obtain ⟨x, _, T, t1, t2, t3, rfl, hT⟩ := hall.memL hv
      refine back_ ?_
      clear back_ G_
      have hT' := hT.base
      have hTs := (hT _ (.head _)).2
      refine by_G fun G_ back_ => ?_
      obtain ⟨F₂, N₂, hm, _⟩ := id Tn
      refine back_ ?_
      clear back_ G_
      have B' := bs_base f S
      have X := B'.x
      refine by_G fun G_ back_ => ?_
      obtain ⟨loose, mean, T⟩ := B'.t
      refine back_ ?_
      clear back_ G_
      clear hT
      k_steps
      refine ⟨⟨_, _, rfl, hTs, rfl⟩, turn_end Tn.1 (by assumption) (by assumption) hm⟩
    · intro D ys s' S' st hD hR
      rw [filter_true] at hR
      refine ⟨S', st, D, rfl, ys, _, hD, ?_⟩
      refine all2_strsOf (all2_comp (fun v x y h1 h2 => ?_) hall hR)
      refine by_G fun G_ back_ => ?_
      obtain ⟨t1, t2, t3, e⟩ := file_tup h1 h2
      refine back_ ?_
      clear back_ G_
      exact ⟨_, (Option.some.inj e).symm⟩
  · intro v s' s'' S' st st' ⟨Pa, hv, hh⟩
    subst hv
    exact ⟨rfl, Pa, S', st, hh.stay st'⟩
set_option maxHeartbeats 1000000 in
theorem st_names {w : World} {mg mb : Str → Option Value} {g : Heap} {L Fa : Addr} {s₁ s : Shared} {ml cl : List (Str × Value)} {o q : Int} {ns : List Int} (f : LFZ w mg mb g L) (S : LZ g L s₁ s ml cl)
    (hF : cl.lookup (Str.ofString "files") = some (.ref Fa)) (hf : HFiles g L s o q Fa ns) (hlen : ns.length ≤ 100) :
    wpAny (model P w) (callerA.deeper (lawE L)) (exec (lawSt 8) (lawE L)) (fun fl s' => fl = .next ∧ ∃ Pa, LZ g L s₁ s' ml ((Str.ofString "names", .ref Pa) :: cl) ∧ StayZ L s s' ∧ HStrs g L s' Pa (ns.map nmOf)) (fun _ _ => False) s := by
  refine by_G fun G_ back_ => ?_
  obtain ⟨vs, n, hl, hall⟩ := hf
  refine back_ ?_
  clear back_ G_
  have hvl := hall.len
  conv => arg 3; arg 1; whnf
  refine set_cell f (ml := ml) (cl := cl) (s₁ := s₁) (R := fun v s' => ∃ Pa, v = .ref Pa ∧ HStrs g L s' Pa (ns.map nmOf)) rfl rfl ?_ ?_ rfl
  · refine by_G fun G_ back_ => ?_
    obtain ⟨oc, hoc, hd, hcL, hcg, hc98, hc16⟩ := S.cellAt f (x := Str.ofString "files") rfl hF
    refine back_ ?_
    clear back_ G_
    refine comp_V f S (fun _ => true) (TupAt s.heap 2) rfl rfl (by decide) rfl (by decide) rfl ?_ hl.at' (by omega) (fun C v s₂ m₂ _ T => no_test T) ?_ ?_
    · have N := S.news f (sp := [(_, oc)]) (by intro q hq; rw [List.mem_singleton.mp hq]; exact ⟨hoc, hcL, hcg⟩)
      have F := S.fr
      have X := f.B.x
      refine by_G fun G_ back_ => ?_
      obtain ⟨loose, mean, T⟩ := f.B.t
      refine back_ ?_
      clear back_ G_
      k_steps
      exact ⟨rfl, _, rfl⟩
    · intro C v s₂ m₂ hv _ Tn
      refine by_G fun G_ back_ => ?_
      obtain ⟨x, _, T, t1, t2, t3, rfl, hT⟩ := hall.memL hv
      refine back_ ?_
      clear back_ G_
      have hT' := hT.base
      have hTs := (hT _ (.head _)).2
      refine by_G fun G_ back_ => ?_
      obtain ⟨F₂, N₂, hm, _⟩ := id Tn
      refine back_ ?_
      clear back_ G_
      have B' := bs_base f S
      have X := B'.x
      refine by_G fun G_ back_ => ?_
      obtain ⟨loose, mean, T⟩ := B'.t
      refine back_ ?_
      clear back_ G_
      clear hT
      k_steps
      refine ⟨⟨_, _, rfl, hTs, rfl⟩, turn_end Tn.1 (by assumption) (by assumption) hm⟩
    · intro D ys s' S' st hD hR
      rw [filter_true] at hR
      refine ⟨S', st, D, rfl, ys, _, hD, ?_⟩
      refine all2_strsOf (all2_comp (fun v x y h1 h2 => ?_) hall hR)
      refine by_G fun G_ back_ => ?_
      obtain ⟨t1, t2, t3, e⟩ := file_tup h1 h2
      refine back_ ?_
      clear back_ G_
      exact ⟨_, (Option.some.inj e).symm⟩
  · intro v s' s'' S' st st' ⟨Pa, hv, hh⟩
    subst hv
    exact ⟨rfl, Pa, S', st, hh.stay st'⟩
theorem lines_LX1_2 : True := by
  k_with "call ref" => (k_here; (with_reducible show wpAny _ _ (call (Value.ref 96) _) _ _ _); refine' use_rights ?zqF ?zqN ?zqB rfl (Nat.le_of_ble_eq_true rfl) (Nat.le_of_ble_eq_true rfl) ?_; (case zqF => k_asm); (case zqN => k_asm); (case zqB => assumption); intro v' h' tk' hO' F' N'; (try k_sweep))
  trivial
noncomputable def RightAt (h : Heap) (v y : Value) : Prop := ∃ T sh t mode t' v', v = .ref T ∧ h.get? T = some (tupleO #[.str sh t, .int mode t', v']) ∧ OptInt y (rightsOf sh mode)
theorem right_of {L : Addr} {s : Shared} {o q : Int} {v y : Value} {x : Int} (h : HFile L s o q v x) (t : RightAt s.heap v y) : OptInt y (rightsOf (shapeOf x) (modeOf x o q)) := by
  refine by_G fun G_ back_ => ?_
  obtain ⟨T, sh, t, mode, t', v', rfl, h1, h2⟩ := t
  obtain ⟨_, _, _, e⟩ := file_tup (k := 0) h ⟨T, _, rfl, h1, rfl⟩
  obtain ⟨_, _, _, e'⟩ := file_tup (k := 1) h ⟨T, _, rfl, h1, rfl⟩
  refine back_ ?_
  clear back_ G_
  have e1 := Option.some.inj e
  have e2 := Option.some.inj e'
  cases e1; cases e2
  exact h2
theorem all2_map' {α β : Type} {R : Value → β → Prop} {k : α → β} {xs : List α} {ys : List Value} (x : All2 (fun a y => R y (k a)) xs ys) : All2 R ys (xs.map k) := by
  induction x with
  | nil => exact .nil
  | cons r _ ih => exact .cons r ih
set_option maxHeartbeats 1000000 in
theorem st_rights {w : World} {mg mb : Str → Option Value} {g : Heap} {L Fa : Addr} {s₁ s : Shared} {ml cl : List (Str × Value)} {o q : Int} {ns : List Int} (f : LFZ w mg mb g L) (S : LZ g L s₁ s ml cl)
    (hF : cl.lookup (Str.ofString "files") = some (.ref Fa)) (hf : HFiles g L s o q Fa ns) (hlen : ns.length ≤ 100) :
    wpAny (model P w) (callerA.deeper (lawE L)) (exec (lawSt 9) (lawE L)) (fun fl s' => fl = .next ∧ ∃ Pa, LZ g L s₁ s' ml ((Str.ofString "rights", .ref Pa) :: cl) ∧ StayZ L s s' ∧ HOpts g L s' Pa (ns.map fun x => rightsOf (shapeOf x) (modeOf x o q))) (fun _ _ => False) s := by
  refine by_G fun G_ back_ => ?_
  obtain ⟨vs, n, hl, hall⟩ := hf
  refine back_ ?_
  clear back_ G_
  have hvl := hall.len
  conv => arg 3; arg 1; whnf
  refine set_cell f (ml := ml) (cl := cl) (s₁ := s₁) (R := fun v s' => ∃ Pa, v = .ref Pa ∧ HOpts g L s' Pa (ns.map fun x => rightsOf (shapeOf x) (modeOf x o q))) rfl rfl ?_ ?_ rfl
  · refine by_G fun G_ back_ => ?_
    obtain ⟨oc, hoc, hd, hcL, hcg, hc98, hc16⟩ := S.cellAt f (x := Str.ofString "files") rfl hF
    refine back_ ?_
    clear back_ G_
    refine comp_V f S (fun _ => true) (RightAt s.heap) rfl rfl (by decide) rfl (by decide) rfl ?_ hl.at' (by omega) (fun C v s₂ m₂ _ T => no_test T) ?_ ?_
    · have N := S.news f (sp := [(_, oc)]) (by intro q hq; rw [List.mem_singleton.mp hq]; exact ⟨hoc, hcL, hcg⟩)
      have F := S.fr
      have X := f.B.x
      refine by_G fun G_ back_ => ?_
      obtain ⟨loose, mean, T⟩ := f.B.t
      refine back_ ?_
      clear back_ G_
      k_steps
      exact ⟨rfl, _, rfl⟩
    · intro C v s₂ m₂ hv _ Tn
      refine by_G fun G_ back_ => ?_
      obtain ⟨x, _, T, t1, t2, t3, rfl, hT⟩ := hall.memL hv
      refine back_ ?_
      clear back_ G_
      have hT' := hT.base
      have hTs := (hT _ (.head _)).2
      refine by_G fun G_ back_ => ?_
      obtain ⟨F₂, N₂, hm, _⟩ := id Tn
      refine back_ ?_
      clear back_ G_
      have B' := bs_base f S
      have X := B'.x
      refine by_G fun G_ back_ => ?_
      obtain ⟨loose, mean, T⟩ := B'.t
      refine back_ ?_
      clear back_ G_
      clear hT
      k_steps
      refine ⟨⟨_, _, _, _, _, _, rfl, hTs, by assumption⟩, turn_end Tn.1 (by assumption) (by assumption) hm⟩
    · intro D ys s' S' st hD hR
      rw [filter_true] at hR
      refine ⟨S', st, D, rfl, ys, _, hD, ?_⟩
      exact all2_map' (all2_comp (R := HFile L s o q) (S := RightAt s.heap) (T := fun a y => OptInt y (rightsOf (shapeOf a) (modeOf a o q))) (fun v x y h1 h2 => right_of (L := L) (v := v) h1 h2) hall hR)
  · intro v s' s'' S' st st' ⟨Pa, hv, hh⟩
    subst hv
    exact ⟨rfl, Pa, S', st, hh.stay st'⟩
end
-- LX2
section
open PyProof.Rows.LCg (lst lst_snoc)
theorem lines_LX2_1 : True := by
  k_with_none
  k_with "eval Name" => (k_here; (with_reducible show wpAny _ _ (eval (Expr.Name _ _) (compEnvC _ _ _ _)) _ _ _); k_dflt (first | (refine own_C (by k_asm) (by assumption) ?_) | (refine' cell_C ?zqF ?zqc ?zqm ?zqd ?_; (case zqF => k_asm); (case zqc => rfl); (case zqm => assumption); (case zqd => assumption))))
  k_with "subscriptTail" => (k_here; k_dflt (first | (refine' item_tup ?zqF ?zqT ?zqh0 ?zqx ?zql ?_; (case zqF => k_asm); (case zqT => assumption); (case zqh0 => decide); (case zqx => rfl); (case zql => exact Nat.le_of_ble_eq_true rfl)) | (refine' item_lst ?zqF ?zqT ?zqh0 ?zqx ?zql ?_; (case zqF => k_asm); (case zqT => assumption); (case zqh0 => assumption); (case zqx => assumption); (case zql => assumption))))
  k_with "call ref" => (k_here; (with_reducible show wpAny _ _ (call (Value.ref 89) _) _ _ _); refine park ?_)
  k_with "call ref" => (k_here; (with_reducible show wpAny _ _ (call (Value.ref 103) _) _ _ _); refine park ?_)
  trivial
theorem ints_all2 {vs : List Value} {is : List Int} (h : IntsAre vs is) : All2 (fun v i => ∃ t, v = Value.int i t) vs is := by
  induction h with
  | nil => exact .nil
  | cons i t _ ih => exact .cons ⟨t, rfl⟩ ih
set_option maxHeartbeats 1000000 in
theorem st_files {w : World} {mg mb : Str → Option Value} {g : Heap} {L D9 : Addr} {s₁ s : Shared} {ml cl : List (Str × Value)} {o q : Int} {ns : List Int} {ta tb : Tok} (f : LFZ w mg mb g L) (S : LZ g L s₁ s ml cl)
    (hN : ml.lookup (Str.ofString "numbers") = some (.ref D9)) (hn : HInts g L s D9 ns) (h1 : cl.lookup (Str.ofString "one") = some (.int o ta)) (h2 : cl.lookup (Str.ofString "other") = some (.int q tb)) (hlen : ns.length ≤ 100) :
    wpAny (model P w) (callerA.deeper (lawE L)) (exec (lawSt 5) (lawE L)) (fun fl s' => fl = .next ∧ ∃ Pa, LZ g L s₁ s' ml ((Str.ofString "files", .ref Pa) :: cl) ∧ StayZ L s s' ∧ HFiles g L s' o q Pa ns) (fun _ _ => False) s := by
  refine by_G fun G_ back_ => ?_
  obtain ⟨vs, n, hl, hall⟩ := hn
  refine back_ ?_
  clear back_ G_
  have hvl := ints_len hall
  conv => arg 3; arg 1; whnf
  refine set_cell f (ml := ml) (cl := cl) (s₁ := s₁) (R := fun v s' => ∃ Pa, v = .ref Pa ∧ HFiles g L s' o q Pa ns) rfl rfl ?_ ?_ rfl
  · refine by_G fun G_ back_ => ?_
    obtain ⟨oa, hoa, hda, _, _, ha98, ha16⟩ := S.cellAt f (x := Str.ofString "one") rfl h1
    obtain ⟨ob, hob, hdb, _, _, hb98, hb16⟩ := S.cellAt f (x := Str.ofString "other") rfl h2
    refine back_ ?_
    clear back_ G_
    have hoa' := base_get hoa ha98 ha16
    have hob' := base_get hob hb98 hb16
    refine comp_Z f S (fun _ => true) (fun v y sp => ∃ i t T t1 t2 t3, v = .int i t ∧ y = .ref T ∧ sp = [(T, tupleO #[.str (shapeOf i) t1, .int (modeOf i o q) t2, .str (nmOf i) t3])]) rfl (by with_unfolding_all rfl) (by decide) rfl (by decide) rfl ?_ hl.at' (by omega) (fun C v s₂ m₂ _ T => no_test T) ?_ ?_
    · exact nameX_L S.fr hN ⟨rfl, _, rfl⟩
    · intro C v s₂ m₂ hv _ Tn
      refine by_G fun G_ back_ => ?_
      obtain ⟨F₂, N₂, hm, _⟩ := id Tn
      obtain ⟨i, ti, rfl⟩ := ints_mem hall hv
      refine back_ ?_
      clear back_ G_
      have B' := bs_base f S
      have X := B'.x
      refine by_G fun G_ back_ => ?_
      obtain ⟨loose, mean, T⟩ := B'.t
      refine back_ ?_
      clear back_ G_
      k_steps
      refine use_file (by assumption) (by assumption) B' rfl (Nat.le_of_ble_eq_true rfl) (Nat.le_of_ble_eq_true rfl) ?_
      intro T' u1 u2 u3 h₃ tk₃ hT0 hk₃ F₃ N₃ hT3
      refine ⟨keepC_extC Tn ⟨h₃, tk₃, _, rfl, fun b o _ e => hk₃ b o e, F₃.ns, hm⟩, [(T', _)], ⟨i, ti, T', u1, u2, u3, rfl, rfl, rfl⟩, ?_, ?_⟩
      · intro q hq
        rw [List.mem_singleton.mp hq]; exact hT3
      · intro q hq
        rw [List.mem_singleton.mp hq]
        exact new_fresh hT0 Tn.2.2.2.1
    · intro D ys s' S' st hD hR
      rw [filter_true] at hR
      refine ⟨S', st, D, rfl, ys, _, hD, ?_⟩
      refine all2_comp (fun v y i h1 h2 => ?_) hR (ints_all2 hall)
      refine by_G fun G_ back_ => ?_
      obtain ⟨sp, ⟨i', t, T, t1, t2, t3, rfl, rfl, rfl⟩, hS⟩ := h1
      obtain ⟨t', e⟩ := h2
      refine back_ ?_
      clear back_ G_
      cases e
      exact ⟨T, t1, t2, t3, rfl, hS⟩
  · intro v s' s'' S' st st' ⟨Pa, hv, hh⟩
    subst hv
    exact ⟨rfl, Pa, S', st, hh.stay st'⟩
/-! elements -/
noncomputable def HElem (L : Addr) (s : Shared) (o q : Int) (v : Value) (k : Int) (x : Int) : Prop := ∃ e tagv sp t, v = .ref e ∧ (∀ h, Supp h sp → Elem h e (.int k t) tagv) ∧ Sup L s sp ∧ TagIs tagv (tagOf (shapeOf x) (modeOf x o q) (nmOf x)) (.int k t)
noncomputable def HElems (g : Heap) (L : Addr) (s : Shared) (o q : Int) (a : Addr) (ns : List Int) : Prop := ∃ vs n, Has g L s a (W.listOf (List.toArray vs) n) ∧ vs.length = ns.length ∧ ∀ (i : Nat) x, ns[i]? = some x → ∃ v, vs[i]? = some v ∧ HElem L s o q v i x
theorem HElems.stay {g : Heap} {L a : Addr} {s s' : Shared} {o q : Int} {ns : List Int} (h : HElems g L s o q a ns) (st : StayZ L s s') : HElems g L s' o q a ns :=
  let ⟨vs, n, h1, h2, h3⟩ := h; ⟨vs, n, h1.stay st, h2, fun i x hx => let ⟨v, e, e', tagv, sp, t, r1, r2, r3, r4⟩ := h3 i x hx; ⟨v, e, e', tagv, sp, t, r1, r2, r3.stay st, r4⟩⟩
theorem nameOf_len (y : Int) : (nameOf y).length ≤ 2 := by unfold nameOf; repeat' (split <;> first | decide | skip)
theorem nmOf_len (x : Int) : (nmOf x).length ≤ 2 := by
  unfold nmOf
  split
  · split
    · decide
    · exact nameOf_len _
  · exact nameOf_len _
theorem range_mem {vs : List Value} {n : Nat} (h : IntsAre vs (rangeKs 0 n)) {v : Value} (hv : v ∈ vs) : ∃ k t, v = .int k t ∧ 0 ≤ k ∧ k.toNat < n := by
  obtain ⟨k, hk, t, rfl⟩ := (ints_all2 h).memL hv
  have := mem_rangeKs hk
  exact ⟨k, t, rfl, by omega, by omega⟩
set_option maxHeartbeats 1000000 in
theorem st_elements {w : World} {mg mb : Str → Option Value} {g : Heap} {L Fa Pa : Addr} {s₁ s : Shared} {ml cl : List (Str × Value)} {o q : Int} {ns : List Int} (f : LFZ w mg mb g L) (S : LZ g L s₁ s ml cl)
    (hF : cl.lookup (Str.ofString "files") = some (.ref Fa)) (hf : HFiles g L s o q Fa ns) (hP : ml.lookup (Str.ofString "places") = some (.ref Pa)) (hp : HInts g L s Pa (rangeKs 0 ns.length)) (hlen : ns.length ≤ 100) :
    wpAny (model P w) (callerA.deeper (lawE L)) (exec (lawSt 10) (lawE L)) (fun fl s' => fl = .next ∧ ∃ Ea, LZ g L s₁ s' ml ((Str.ofString "elements", .ref Ea) :: cl) ∧ StayZ L s s' ∧ HElems g L s' o q Ea ns) (fun _ _ => False) s := by
  refine by_G fun G_ back_ => ?_
  obtain ⟨vf, nf, hlf, hallf⟩ := hf
  obtain ⟨vs, n, hl, hall⟩ := hp
  refine back_ ?_
  clear back_ G_
  have hvl := ints_len hall
  have hfl := hallf.len
  have hf100 : vf.length ≤ 100 := by omega
  rw [rangeKs_length] at hvl
  conv => arg 3; arg 1; whnf
  refine set_cell f (ml := ml) (cl := cl) (s₁ := s₁) (R := fun v s' => ∃ Pa, v = .ref Pa ∧ HElems g L s' o q Pa ns) rfl rfl ?_ ?_ rfl
  · refine by_G fun G_ back_ => ?_
    obtain ⟨oa, hoa, hda, _, _, ha98, ha16⟩ := S.cellAt f (x := Str.ofString "files") rfl hF
    refine back_ ?_
    clear back_ G_
    have hoa' := base_get hoa ha98 ha16
    have hfb := hlf.base
    refine comp_Z f S (fun _ => true) (fun v y sp => ∃ k t x e tagv, v = .int k t ∧ 0 ≤ k ∧ ns[k.toNat]? = some x ∧ y = .ref e ∧ (∀ h, Supp h sp → Elem h e (.int k t) tagv) ∧ TagIs tagv (tagOf (shapeOf x) (modeOf x o q) (nmOf x)) (.int k t)) rfl (by with_unfolding_all rfl) (by decide) rfl (by decide) rfl ?_ hl.at' (by omega) (fun C v s₂ m₂ _ T => no_test T) ?_ ?_
    · exact nameX_L S.fr hP ⟨rfl, _, rfl⟩
    · intro C v s₂ m₂ hv _ Tn
      refine by_G fun G_ back_ => ?_
      obtain ⟨F₂, N₂, hm, hti, hbr, hC98, hC16⟩ := id Tn
      obtain ⟨k, t, rfl, hk0, hkn⟩ := range_mem hall hv
      refine back_ ?_
      clear back_ G_
      obtain ⟨x, hx⟩ : ∃ x, ns[k.toNat]? = some x := ⟨ns[k.toNat], by simp [hkn]⟩
      refine by_G fun G_ back_ => ?_
      obtain ⟨v, hvx, T, t1, t2, t3, rfl, hT⟩ := hallf.getR _ _ hx
      refine back_ ?_
      clear back_ G_
      have hT' := hT.base
      have B' := bs_base f S
      have X := B'.x
      refine by_G fun G_ back_ => ?_
      obtain ⟨loose, mean, T⟩ := B'.t
      refine back_ ?_
      clear back_ G_
      have kg : ∀ b o, g.get? b = some o → s₂.heap.get? b = some o := fun b o e => F₂.keep _ _ (base_get (S.fr.keep _ _ e) (fun z => by rw [z, f.n98] at e; cases e) (fun z => by rw [z, f.n16] at e; cases e))
      have hmode := modeOf x o q
      k_steps
      refine wpAny_mono (wpAny_le (A' := AA 7) (c_elem0 (s := { s₂ with toks := s₂.toks + 1 + 1 + 1 }) f.B kg f.n98 f.c98 hti k (shapeOf x) (modeOf x o q) (nmOf x) (nmOf_len x) _ _ _ _) rfl (Nat.le_of_ble_eq_true rfl) rfl rfl (Nat.le_of_ble_eq_true rfl)) (fun y s₃ hy => ?_) fun _ _ q => q.elim
      refine by_G fun G_ back_ => ?_
      obtain ⟨e, tagv, sp, rfl, hE, hS, hFr, hTag, ⟨h', tk, rfl, hk⟩, hti'⟩ := hy
      refine back_ ?_
      clear back_ G_
      exact ⟨⟨h', tk, s₂.gens, m₂, rfl, fun b o _ n1 n2 e => hk b o n1 n2 e, F₂.ns.at' fun o e => hk _ _ hC98 hC16 e, hti', hbr⟩, sp, ⟨k, t, x, e, tagv, rfl, hk0, hx, rfl, hE, hTag⟩, hS, hFr⟩
    · intro D ys s' S' st hD hR
      rw [filter_true] at hR
      refine ⟨S', st, D, rfl, ys, _, hD, by rw [← hR.len, hvl], fun i x hx => ?_⟩
      have hi : i < ns.length := (List.getElem?_eq_some_iff.mp hx).1
      refine by_G fun G_ back_ => ?_
      obtain ⟨v, hv, t, rfl⟩ := (ints_all2 hall).getR i (i : Int) (by simp [rangeKs, hi])
      obtain ⟨y, hy, sp, ⟨k, t', x', e, tagv, e1, hk0, hx', rfl, hE, hTag⟩, hS⟩ := hR.get i _ hv
      refine back_ ?_
      clear back_ G_
      cases e1
      rw [Int.toNat_natCast, hx] at hx'
      cases hx'
      exact ⟨_, hy, e, tagv, sp, t, rfl, hE, hS, hTag⟩
  · intro v s' s'' S' st st' ⟨Pa, hv, hh⟩
    subst hv
    exact ⟨rfl, Pa, S', st, hh.stay st'⟩
end
-- LX3
section
open PyProof.Rows.LCg (lst lst_snoc)
theorem lines_LX3_1 : True := by
  k_with_none
  k_with "eval ListComp" => refine park ?_
  k_with "eval Name" => (k_here; (with_reducible show wpAny _ _ (eval (Expr.Name _ _) (compEnvC _ _ _ _)) _ _ _); k_dflt (first | (refine own_C (by k_asm) (by assumption) ?_) | (refine' cell_C ?zqF ?zqc ?zqm ?zqd ?_; (case zqF => k_asm); (case zqc => rfl); (case zqm => assumption); (case zqd => assumption))))
  k_with "subscriptTail" => (k_here; k_dflt (first | (refine' item_tup ?zqF ?zqT ?zqh0 ?zqx ?zql ?_; (case zqF => k_asm); (case zqT => assumption); (case zqh0 => decide); (case zqx => rfl); (case zql => exact Nat.le_of_ble_eq_true rfl)) | (refine' item_lst ?zqF ?zqT ?zqh0 ?zqx ?zql ?_; (case zqF => k_asm); (case zqT => assumption); (case zqh0 => assumption); (case zqx => assumption); (case zql => assumption))))
  k_with "call ref" => (k_here; (with_reducible show wpAny _ _ (call (Value.ref 96) _) _ _ _); refine' use_rights ?zqF ?zqN ?zqB rfl (Nat.le_of_ble_eq_true rfl) (Nat.le_of_ble_eq_true rfl) ?_; (case zqF => k_asm); (case zqN => k_asm); (case zqB => assumption); intro v' h' tk' hO' F' N'; obtain ⟨t', e'⟩ := hO'; subst e'; (try k_sweep))
  trivial
section
variable {w : World} {A : Around} {mg mb : Str → Option Value} {g : Heap} {L : Addr} {s₁ s : Shared} {ml cl : List (Str × Value)} {iter c : Expr} {x : Str} {px pe pos : Pos} {scope : Scope} {cs : List (Str × Addr)}
noncomputable def intTst (pk : Int → Bool) : Value → Bool | .int k _ => pk k | _ => false
theorem ints_filter {pk : Int → Bool} {vs : List Value} {is : List Int} (h : IntsAre vs is) : IntsAre (vs.filter (intTst pk)) (is.filter pk) := by
  induction h with
  | nil => exact .nil
  | cons i t _ ih =>
    rw [List.filter_cons, List.filter_cons]
    show IntsAre (if pk i = true then _ else _) _
    cases pk i
    · exact ih
    · exact .cons _ _ ih
theorem all2_self {vs ys : List Value} (h : All2 (fun v y => y = v) vs ys) : ys = vs := by
  induction h with
  | nil => rfl
  | cons e _ ih => rw [e, ih]
/-- [k for k in ints if ..] -/
theorem comp_K {Q : Value → Shared → Prop} {E : Value → Shared → Prop} (f : LFZ w mg mb g L) (S : LZ g L s₁ s ml cl) {ax : Addr} {is : List Int} (pk : Int → Bool)
    (hh : A.handled = none) (hclos : closureFor scope (lawE L) = pure cs) (hcell : ∀ y ∈ scope.names, y.2 ≠ .cell) (hkind : scope.kind = .function)
    (hnames : ∀ y ∈ scope.names, y.2 = .local → scope.names.lookup y.1 = some .local) (hx : scope.names.lookup x = some .local) (hb : (x == ("__debug__" : Str)) = false)
    (hi : wpAny (model P w) A (eval iter (lawE L)) (fun xv s' => Parked (xv = .ref ax ∧ ∃ tk, s' = { s with toks := tk })) E s)
    (hax : HInts g L s ax is) (hlen : is.length ≤ 100)
    (ht : ∀ C k t s₂ m₂, k ∈ is → Turn s C x (.int k t) s₂ m₂ →
        wpAny (model P w) A (isTrue c (compEnvC scope cs C (lawE L)) (eval c (compEnvC scope cs C (lawE L)))) (fun ok s₃ => Parked (ok = pk k ∧ KeepC C x (.int k t) s₂ s₃)) (fun _ _ => False) s₂)
    (hQ : ∀ D s', LZ g L s₁ s' ml cl → StayZ L s s' → HInts g L s' D (is.filter pk) → Q (.ref D) s')
    (hs : ∀ x, foldedSetIterable iter (lawE L) x = pure x := by intro _; rfl) :
    wpAny (model P w) A (eval (.ListComp (.Name x pe) [⟨.Name x px, iter, [c], 0⟩] scope pos) (lawE L)) Q E s := by
  obtain ⟨vs, n, hl, hall⟩ := hax
  have hvl := ints_len hall
  refine comp_V f S (intTst pk) (fun v y => y = v) hh hclos hcell hkind hnames hx hi hl.at' (by omega) ?_ ?_ ?_ hs
  · intro C v s₂ m₂ hv T
    obtain ⟨k, hk, t, rfl⟩ := (ints_all2 hall).memL hv
    exact wpAny_tests_one (ht C k t s₂ m₂ hk T)
  · intro C v s₂ m₂ hv _ T
    exact own_C T.1 T.2.2.1 ⟨rfl, _, _, _, rfl, fun _ _ _ e => e, T.1.ns, T.2.2.1⟩ hkind (lookup_relabel_local hx) hb
  · intro D ys s' S' st hD hR
    rw [all2_self hR] at hD
    exact hQ D s' S' st ⟨_, _, hD, ints_filter hall⟩
end
/-! what the lists of law are to hold -/
theorem and_t {a b : Bool} (ha : a = true) (hb : b = true) : true = (a && b) := by rw [ha, hb]; rfl
theorem and_f {a b : Bool} (ha : a = true) (hb : b = false) : false = (a && b) := by rw [ha, hb]; rfl
theorem and_o {a b : Bool} (ha : a = false) : false = (a && b) := by rw [ha]; rfl
theorem News.tl {h₀ h : Heap} {L : Addr} {p : Addr × Obj} {news : List (Addr × Obj)} (N : News h₀ L h (p :: news)) : News h₀ L h news := fun q hq => N q (.tail _ hq)
theorem strs_getR {vs : List Value} {ys : List Str} (h : StrsAre vs ys) : ∀ (i : Nat) (y : Str), ys[i]? = some y → ∃ t, vs[i]? = some (.str y t) := by
  induction h with
  | nil => intro i y hy; simp at hy
  | cons z u _ ih =>
    intro i y hy
    cases i with
    | zero => simp at hy; subst hy; exact ⟨u, rfl⟩
    | succ i => simpa using ih i y (by simpa using hy)
noncomputable def rightsL (ns : List Int) (o q : Int) : List (Option Int) := ns.map fun x => rightsOf (shapeOf x) (modeOf x o q)
noncomputable def dueR (ns : List Int) (o q m : Int) (k : Int) : Bool := (rightsL ns o q).getD k.toNat none == rightsOf (Str.ofString "rights") m
noncomputable def dueA (ns : List Int) (k : Int) : Bool := (ns.map shapeOf).getD k.toNat (Str.ofString "") == Str.ofString "alone"
noncomputable def dueN (ns : List Int) (wd : Str) (k : Int) : Bool := (ns.map nmOf).getD k.toNat (Str.ofString "") == wd && [Str.ofString "rights", Str.ofString "alone", Str.ofString "empty"].any (· == (ns.map shapeOf).getD k.toNat (Str.ofString ""))
noncomputable def dueT (ns : List Int) (k : Int) : Bool := (ns.map shapeOf).getD k.toNat (Str.ofString "") != Str.ofString "number"
noncomputable def duesOf (ns : List Int) (o q : Int) (wd : Str) : List (List Int) := [(rangeKs 0 ns.length).filter (dueR ns o q o), (rangeKs 0 ns.length).filter (dueR ns o q q), (rangeKs 0 ns.length).filter (dueA ns), (rangeKs 0 ns.length).filter (dueN ns wd), (rangeKs 0 ns.length).filter (dueT ns)]
noncomputable def HLists (g : Heap) (L : Addr) (s : Shared) (a : Addr) (iss : List (List Int)) : Prop := ∃ vs n, Has g L s a (W.listOf (List.toArray vs) n) ∧ All2 (fun v is => ∃ b, v = .ref b ∧ HInts g L s b is) vs iss
theorem HLists.stay {g : Heap} {L a : Addr} {s s' : Shared} {iss : List (List Int)} (h : HLists g L s a iss) (st : StayZ L s s') : HLists g L s' a iss := let ⟨vs, n, h1, h2⟩ := h; ⟨vs, n, h1.stay st, h2.mono fun v is ⟨b, e, hb⟩ => ⟨b, e, hb.stay st⟩⟩
theorem rg_mem {k : Int} {n : Nat} (h : k ∈ rangeKs 0 n) : 0 ≤ k ∧ k.toNat < n := by
  have := mem_rangeKs h
  omega
set_option maxHeartbeats 4000000 in
theorem st_dues {w : World} {mg mb : Str → Option Value} {g : Heap} {L Pa Ra Sa Na : Addr} {s₁ s : Shared} {ml cl : List (Str × Value)} {o q : Int} {ns : List Int} {wd : Str} {ta tb tw : Tok} (f : LFZ w mg mb g L) (S : LZ g L s₁ s ml cl)
    (hP : ml.lookup (Str.ofString "places") = some (.ref Pa)) (hp : HInts g L s Pa (rangeKs 0 ns.length)) (hR : cl.lookup (Str.ofString "rights") = some (.ref Ra)) (hr : HOpts g L s Ra (rightsL ns o q))
    (hS : cl.lookup (Str.ofString "shapes") = some (.ref Sa)) (hs : HStrs g L s Sa (ns.map shapeOf)) (hN : cl.lookup (Str.ofString "names") = some (.ref Na)) (hn : HStrs g L s Na (ns.map nmOf))
    (h1 : cl.lookup (Str.ofString "one") = some (.int o ta)) (h2 : cl.lookup (Str.ofString "other") = some (.int q tb)) (hw : cl.lookup (Str.ofString "wanted") = some (.str wd tw)) (hlen : ns.length ≤ 100) :
    wpAny (model P w) (callerA.deeper (lawE L)) (exec (lawSt 11) (lawE L)) (fun fl s' => fl = .next ∧ ∃ Da, LZ g L s₁ s' ((Str.ofString "dues", .ref Da) :: ml) cl ∧ StayZ L s s' ∧ HLists g L s' Da (duesOf ns o q wd)) (fun _ _ => False) s := by
  have hrl : (rangeKs 0 ns.length).length ≤ 100 := by rw [rangeKs_length]; exact hlen
  conv => arg 3; arg 1; whnf
  refine set_local f (ml := ml) (cl := cl) (s₁ := s₁) (R := fun v s' => ∃ Pa, v = .ref Pa ∧ HLists g L s' Pa (duesOf ns o q wd)) rfl ?_ ?_ rfl
  · have F := S.fr
    have N := S.news f (sp := []) (by intro q hq; cases hq)
    have X := f.B.x
    refine by_G fun G_ back_ => ?_
    obtain ⟨loose, mean, T⟩ := f.B.t
    refine back_ ?_
    clear back_ G_
    have st0 : StayZ L s s := Stay.refl
    k_steps
    refine comp_K f S (dueR ns o q o) rfl (by with_unfolding_all rfl) (by decide) rfl (by decide) rfl (by decide) (nameX_L S.fr hP ⟨rfl, _, rfl⟩) hp hrl ?_ ?_
    · intro C k t s₂ m₂ hk Tn
      refine by_G fun G_ back_ => ?_
      obtain ⟨hk0, hkn⟩ := rg_mem hk
      refine back_ ?_
      clear back_ G_
      clear F N X T
      refine by_G fun G_ back_ => ?_
      obtain ⟨F₂, N₂, hm, _⟩ := id Tn
      obtain ⟨oa, hoa, hda, _, _, h98a, h16a⟩ := S.cellAt f (x := Str.ofString "rights") rfl hR
      refine back_ ?_
      clear back_ G_
      have hoa' := base_get hoa h98a h16a
      refine by_G fun G_ back_ => ?_
      obtain ⟨ob, hob, hdb, _, _, h98b, h16b⟩ := S.cellAt f (x := Str.ofString "one") rfl h1
      refine back_ ?_
      clear back_ G_
      have hob' := base_get hob h98b h16b
      refine by_G fun G_ back_ => ?_
      obtain ⟨vr, nr, hlr, hallr⟩ := hr
      refine back_ ?_
      clear back_ G_
      have hlr' := hlr.base
      have hr100 : vr.length ≤ 100 := by rw [hallr.len]; simpa [rightsL] using hlen
      obtain ⟨r, hr'⟩ : ∃ r, (rightsL ns o q)[k.toNat]? = some r := ⟨(rightsL ns o q)[k.toNat]'(by simpa [rightsL] using hkn), by simp⟩
      refine by_G fun G_ back_ => ?_
      obtain ⟨v, hv, hvr⟩ := hallr.getR _ _ hr'
      refine back_ ?_
      clear back_ G_
      have hdef : dueR ns o q o k = (r == rightsOf (Str.ofString "rights") o) := by unfold dueR; rw [List.getD_eq_getElem?_getD, hr']; rfl
      rw [hdef]
      have B' := bs_base f S
      have X := B'.x
      refine by_G fun G_ back_ => ?_
      obtain ⟨loose, mean, T⟩ := B'.t
      refine back_ ?_
      clear back_ G_
      cases r with
      | none =>
        cases hvr
        k_steps
        exact ⟨rfl, turn_end Tn.1 (by assumption) (by assumption) hm⟩
      | some i =>
        refine by_G fun G_ back_ => ?_
        obtain ⟨ti, rfl⟩ := hvr
        refine back_ ?_
        clear back_ G_
        k_steps
        exact ⟨rfl, turn_end Tn.1 (by assumption) (by assumption) hm⟩
    intro D0 s' S' st hI0
    replace st0 := st0.trans st
    replace hp := hp.stay st; replace hr := hr.stay st; replace hs := hs.stay st; replace hn := hn.stay st
    clear F N S st
    have S := S'
    clear S'
    have F := S.fr
    have N := S.news f (sp := []) (by intro q hq; cases hq)
    k_steps
    refine comp_K f S (dueR ns o q q) rfl (by with_unfolding_all rfl) (by decide) rfl (by decide) rfl (by decide) (nameX_L S.fr hP ⟨rfl, _, rfl⟩) hp hrl ?_ ?_
    · intro C k t s₂ m₂ hk Tn
      refine by_G fun G_ back_ => ?_
      obtain ⟨hk0, hkn⟩ := rg_mem hk
      refine back_ ?_
      clear back_ G_
      clear F N X T
      refine by_G fun G_ back_ => ?_
      obtain ⟨F₂, N₂, hm, _⟩ := id Tn
      obtain ⟨oa, hoa, hda, _, _, h98a, h16a⟩ := S.cellAt f (x := Str.ofString "rights") rfl hR
      refine back_ ?_
      clear back_ G_
      have hoa' := base_get hoa h98a h16a
      refine by_G fun G_ back_ => ?_
      obtain ⟨ob, hob, hdb, _, _, h98b, h16b⟩ := S.cellAt f (x := Str.ofString "other") rfl h2
      refine back_ ?_
      clear back_ G_
      have hob' := base_get hob h98b h16b
      refine by_G fun G_ back_ => ?_
      obtain ⟨vr, nr, hlr, hallr⟩ := hr
      refine back_ ?_
      clear back_ G_
      have hlr' := hlr.base
      have hr100 : vr.length ≤ 100 := by rw [hallr.len]; simpa [rightsL] using hlen
      obtain ⟨r, hr'⟩ : ∃ r, (rightsL ns o q)[k.toNat]? = some r := ⟨(rightsL ns o q)[k.toNat]'(by simpa [rightsL] using hkn), by simp⟩
      refine by_G fun G_ back_ => ?_
      obtain ⟨v, hv, hvr⟩ := hallr.getR _ _ hr'
      refine back_ ?_
      clear back_ G_
      have hdef : dueR ns o q q k = (r == rightsOf (Str.ofString "rights") q) := by unfold dueR; rw [List.getD_eq_getElem?_getD, hr']; rfl
      rw [hdef]
      have B' := bs_base f S
      have X := B'.x
      refine by_G fun G_ back_ => ?_
      obtain ⟨loose, mean, T⟩ := B'.t
      refine back_ ?_
      clear back_ G_
      cases r with
      | none =>
        cases hvr
        k_steps
        exact ⟨rfl, turn_end Tn.1 (by assumption) (by assumption) hm⟩
      | some i =>
        refine by_G fun G_ back_ => ?_
        obtain ⟨ti, rfl⟩ := hvr
        refine back_ ?_
        clear back_ G_
        k_steps
        exact ⟨rfl, turn_end Tn.1 (by assumption) (by assumption) hm⟩
    intro D1 s' S' st hI1
    replace st0 := st0.trans st
    replace hp := hp.stay st; replace hr := hr.stay st; replace hs := hs.stay st; replace hn := hn.stay st
    replace hI0 := hI0.stay st
    clear F N S st
    have S := S'
    clear S'
    have F := S.fr
    have N := S.news f (sp := []) (by intro q hq; cases hq)
    k_steps
    refine comp_K f S (dueA ns) rfl (by with_unfolding_all rfl) (by decide) rfl (by decide) rfl (by decide) (nameX_L S.fr hP ⟨rfl, _, rfl⟩) hp hrl ?_ ?_
    · intro C k t s₂ m₂ hk Tn
      refine by_G fun G_ back_ => ?_
      obtain ⟨hk0, hkn⟩ := rg_mem hk
      refine back_ ?_
      clear back_ G_
      clear F N X T
      refine by_G fun G_ back_ => ?_
      obtain ⟨F₂, N₂, hm, _⟩ := id Tn
      obtain ⟨oa, hoa, hda, _, _, h98a, h16a⟩ := S.cellAt f (x := Str.ofString "shapes") rfl hS
      refine back_ ?_
      clear back_ G_
      have hoa' := base_get hoa h98a h16a
      refine by_G fun G_ back_ => ?_
      obtain ⟨vS, nS, hlS, hallS⟩ := hs
      refine back_ ?_
      clear back_ G_
      have hlS' := hlS.base
      have hS100 : vS.length ≤ 100 := by rw [strs_len hallS]; simpa using hlen
      refine by_G fun G_ back_ => ?_
      obtain ⟨xS, hxS⟩ : ∃ x, (ns.map shapeOf)[k.toNat]? = some x := ⟨_, List.getElem?_eq_getElem (by simpa using hkn)⟩
      obtain ⟨tS, htS⟩ := strs_getR hallS _ _ hxS
      refine back_ ?_
      clear back_ G_
      have hdef : dueA ns k = (xS == Str.ofString "alone") := by unfold dueA; rw [List.getD_eq_getElem?_getD, hxS]; rfl
      rw [hdef]
      have B' := bs_base f S
      have X := B'.x
      refine by_G fun G_ back_ => ?_
      obtain ⟨loose, mean, T⟩ := B'.t
      refine back_ ?_
      clear back_ G_
      k_steps
      all_goals exact ⟨rfl, turn_end Tn.1 (by assumption) (by assumption) hm⟩
    intro D2 s' S' st hI2
    replace st0 := st0.trans st
    replace hp := hp.stay st; replace hr := hr.stay st; replace hs := hs.stay st; replace hn := hn.stay st
    replace hI0 := hI0.stay st
    replace hI1 := hI1.stay st
    clear F N S st
    have S := S'
    clear S'
    have F := S.fr
    have N := S.news f (sp := []) (by intro q hq; cases hq)
    k_steps
    refine comp_K f S (dueN ns wd) rfl (by with_unfolding_all rfl) (by decide) rfl (by decide) rfl (by decide) (nameX_L S.fr hP ⟨rfl, _, rfl⟩) hp hrl ?_ ?_
    · intro C k t s₂ m₂ hk Tn
      refine by_G fun G_ back_ => ?_
      obtain ⟨hk0, hkn⟩ := rg_mem hk
      refine back_ ?_
      clear back_ G_
      clear F N X T
      refine by_G fun G_ back_ => ?_
      obtain ⟨F₂, N₂, hm, _⟩ := id Tn
      obtain ⟨oa, hoa, hda, _, _, h98a, h16a⟩ := S.cellAt f (x := Str.ofString "shapes") rfl hS
      refine back_ ?_
      clear back_ G_
      have hoa' := base_get hoa h98a h16a
      refine by_G fun G_ back_ => ?_
      obtain ⟨ob, hob, hdb, _, _, h98b, h16b⟩ := S.cellAt f (x := Str.ofString "names") rfl hN
      refine back_ ?_
      clear back_ G_
      have hob' := base_get hob h98b h16b
      refine by_G fun G_ back_ => ?_
      obtain ⟨oc, hoc, hdc, _, _, h98c, h16c⟩ := S.cellAt f (x := Str.ofString "wanted") rfl hw
      refine back_ ?_
      clear back_ G_
      have hoc' := base_get hoc h98c h16c
      refine by_G fun G_ back_ => ?_
      obtain ⟨vS, nS, hlS, hallS⟩ := hs
      refine back_ ?_
      clear back_ G_
      have hlS' := hlS.base
      have hS100 : vS.length ≤ 100 := by rw [strs_len hallS]; simpa using hlen
      refine by_G fun G_ back_ => ?_
      obtain ⟨xS, hxS⟩ : ∃ x, (ns.map shapeOf)[k.toNat]? = some x := ⟨_, List.getElem?_eq_getElem (by simpa using hkn)⟩
      obtain ⟨tS, htS⟩ := strs_getR hallS _ _ hxS
      obtain ⟨vN, nN, hlN, hallN⟩ := hn
      refine back_ ?_
      clear back_ G_
      have hlN' := hlN.base
      have hN100 : vN.length ≤ 100 := by rw [strs_len hallN]; simpa using hlen
      refine by_G fun G_ back_ => ?_
      obtain ⟨xN, hxN⟩ : ∃ x, (ns.map nmOf)[k.toNat]? = some x := ⟨_, List.getElem?_eq_getElem (by simpa using hkn)⟩
      obtain ⟨tN, htN⟩ := strs_getR hallN _ _ hxN
      refine back_ ?_
      clear back_ G_
      have hdef : dueN ns wd k = (xN == wd && [Str.ofString "rights", Str.ofString "alone", Str.ofString "empty"].any (· == xS)) := by unfold dueN; rw [List.getD_eq_getElem?_getD, List.getD_eq_getElem?_getD, hxS, hxN]; rfl
      rw [hdef]
      have B' := bs_base f S
      have X := B'.x
      refine by_G fun G_ back_ => ?_
      obtain ⟨loose, mean, T⟩ := B'.t
      refine back_ ?_
      clear back_ G_
      k_steps
      · exact ⟨and_t (by assumption) (by assumption), turn_end Tn.1 (by assumption) (fun p hp => News.tl (by assumption) p hp) hm⟩
      · exact ⟨and_f (by assumption) (by assumption), turn_end Tn.1 (by assumption) (fun p hp => News.tl (by assumption) p hp) hm⟩
      · exact ⟨and_o (by assumption), turn_end Tn.1 (by assumption) (by assumption) hm⟩
    intro D3 s' S' st hI3
    replace st0 := st0.trans st
    replace hp := hp.stay st; replace hr := hr.stay st; replace hs := hs.stay st; replace hn := hn.stay st
    replace hI0 := hI0.stay st
    replace hI1 := hI1.stay st
    replace hI2 := hI2.stay st
    clear F N S st
    have S := S'
    clear S'
    have F := S.fr
    have N := S.news f (sp := []) (by intro q hq; cases hq)
    k_steps
    refine comp_K f S (dueT ns) rfl (by with_unfolding_all rfl) (by decide) rfl (by decide) rfl (by decide) (nameX_L S.fr hP ⟨rfl, _, rfl⟩) hp hrl ?_ ?_
    · intro C k t s₂ m₂ hk Tn
      refine by_G fun G_ back_ => ?_
      obtain ⟨hk0, hkn⟩ := rg_mem hk
      refine back_ ?_
      clear back_ G_
      clear F N X T
      refine by_G fun G_ back_ => ?_
      obtain ⟨F₂, N₂, hm, _⟩ := id Tn
      obtain ⟨oa, hoa, hda, _, _, h98a, h16a⟩ := S.cellAt f (x := Str.ofString "shapes") rfl hS
      refine back_ ?_
      clear back_ G_
      have hoa' := base_get hoa h98a h16a
      refine by_G fun G_ back_ => ?_
      obtain ⟨vS, nS, hlS, hallS⟩ := hs
      refine back_ ?_
      clear back_ G_
      have hlS' := hlS.base
      have hS100 : vS.length ≤ 100 := by rw [strs_len hallS]; simpa using hlen
      refine by_G fun G_ back_ => ?_
      obtain ⟨xS, hxS⟩ : ∃ x, (ns.map shapeOf)[k.toNat]? = some x := ⟨_, List.getElem?_eq_getElem (by simpa using hkn)⟩
      obtain ⟨tS, htS⟩ := strs_getR hallS _ _ hxS
      refine back_ ?_
      clear back_ G_
      have hdef : dueT ns k = (xS != Str.ofString "number") := by unfold dueT; rw [List.getD_eq_getElem?_getD, hxS]; rfl
      rw [hdef]
      have B' := bs_base f S
      have X := B'.x
      refine by_G fun G_ back_ => ?_
      obtain ⟨loose, mean, T⟩ := B'.t
      refine back_ ?_
      clear back_ G_
      k_steps
      all_goals exact ⟨rfl, turn_end Tn.1 (by assumption) (by assumption) hm⟩
    intro D4 s' S' st hI4
    replace st0 := st0.trans st
    replace hp := hp.stay st; replace hr := hr.stay st; replace hs := hs.stay st; replace hn := hn.stay st
    replace hI0 := hI0.stay st
    replace hI1 := hI1.stay st
    replace hI2 := hI2.stay st
    replace hI3 := hI3.stay st
    clear F N S st
    have S := S'
    clear S'
    have F := S.fr
    have N := S.news f (sp := []) (by intro q hq; cases hq)
    k_steps
    rename_i D5 h5 F5 N5 hlt5
    have st5 : StayZ L s' { s' with heap := h5 } := (S.walk f rfl F5 (fun p hp => N5 p (.tail _ hp))).2
    obtain ⟨r1, r2, r3⟩ := walk_end (R := fun v s'' => v = .ref D5 ∧ Has g L s'' D5 _) f S F5 N5 rfl (fun p hp => hp) (allLt_of fun p hp => hlt5 p hp) fun hh => ⟨rfl, hh⟩
    exact ⟨r1, st0.trans r2, D5, rfl, _, _, r3.2, .cons ⟨_, rfl, hI0.stay r2⟩ (.cons ⟨_, rfl, hI1.stay r2⟩ (.cons ⟨_, rfl, hI2.stay r2⟩ (.cons ⟨_, rfl, hI3.stay r2⟩ (.cons ⟨_, rfl, hI4.stay r2⟩ .nil))))⟩
  · intro v s' s'' S' st st' ⟨Pa, hv, hh⟩
    subst hv
    exact ⟨rfl, Pa, S', st, hh.stay st'⟩
end
-- D3
section
open PyProof.Rows.LCg (lst lst_snoc)
section
variable {w : World} {A : Around} {E : Value → Shared → Prop} {env : Env}
set_option maxHeartbeats 1000000 in
theorem comp_listG {γ : Type} {s : Shared} {elt iter : Expr} {x : Str} {px : Pos} {ifs : List Expr} {scope : Scope} {cl : List (Str × Addr)} {pos spos py : Pos} {y₀ : Str} {Q : Flow → Shared → Prop} (p : Value → Bool) (G : Value × γ → Value → List (Addr × Obj) → Prop)
    (hsw : swapsWith (.ListComp elt [⟨.Name x px, iter, ifs, 0⟩] scope pos) (some (.Name y₀ py)) spos.line env = pure true) (hh : A.handled = none) (hclos : closureFor scope env = pure cl) (hcell : ∀ y ∈ scope.names, y.2 ≠ .cell) (hkind : scope.kind = .function)
    (hnames : ∀ y ∈ scope.names, y.2 = .local → scope.names.lookup y.1 = some .local) (hx : scope.names.lookup x = some .local)
    (h : wpAny (model P w) A (eval iter env) (fun xv s₁ => ∃ ax its its', xv = .ref ax ∧ its.toList = List.map Prod.fst its' ∧ s₁.heap.IsList ax its ∧ its.size ≤ sizeLine ∧ TI s₁.heap ∧ AllBare s₁.gens ∧
      (∀ C v s₂ m₂, v ∈ its.toList → s₂.heap.Ns C m₂ → m₂ x = some v → s₁.heap.objs.size ≤ C → Ext s₁ s₂ →
        wpAny (model P w) A (forIn ifs true fun c r => if r = true then do let ok ← isTrue c (compEnvC scope cl C env) (eval c (compEnvC scope cl C env)); pure (ForInStep.yield ok) else pure (ForInStep.yield r)) (fun ok s₃ => Parked (ok = p v ∧ KeepC C x v s₂ s₃)) (fun _ _ => False) s₂) ∧
      (∀ C (v : Value × γ) s₂ m₂, v ∈ its' → p v.1 = true → s₂.heap.Ns C m₂ → m₂ x = some v.1 → s₁.heap.objs.size ≤ C → Ext s₁ s₂ →
        wpAny (model P w) A (eval elt (compEnvC scope cl C env)) (fun y s₃ => Parked (ExtC C s₂ s₃ ∧ ∃ sp, G v y sp ∧ Supp s₃.heap sp ∧ ∀ q ∈ sp, FreshO s₂.heap q)) (fun _ _ => False) s₂) ∧
      (∀ D C ys s' m', s₁.heap.get? D = none → D ≠ 98 → D ≠ 16 → s₁.heap.get? C = none → C ≠ 98 → C ≠ 16 → D ≠ C → Ext s₁ s' → s'.heap.Ns C m' → s'.heap.get? D = some (lst ys) → All2 (fun v y => ∃ sp, G v y sp ∧ Supp s'.heap sp ∧ ∀ q ∈ sp, FreshO s₁.heap q ∧ q.1 ≠ C) (its'.filter fun v => p v.1) ys →
        wpAny (model P w) A (assign (.Name y₀ py) env (.ref D)) (fun _ s'' => ∃ m, s''.heap.Ns C m ∧ ∀ h', Heap.SameBut C s''.heap h' → Q .next { s'' with heap := h' }) E s')) E s)
    (hs : ∀ x, foldedSetIterable iter env x = pure x := by intro _; rfl) :
    wpAny (model P w) A (exec (.Assign [.Name y₀ py] (.ListComp elt [⟨.Name x px, iter, ifs, 0⟩] scope pos) spos) env) Q E s := by
  rw [exec_Assign_Name_used _ _ _ _ hsw]
  refine wpAny_bind (wpAny_standAt (wpAny_bind ?_))
  show wpAny _ A (do let _ ← comprehension (.ListComp elt [⟨.Name x px, iter, ifs, 0⟩] scope pos) scope env _ (newList []) false (eval iter env) (some (assign (.Name y₀ py) env))) _ _ s
  refine wpAny_bind (wpAny_mono (comp_core (use := some (assign (.Name y₀ py) env)) (Q := fun _ s' => Q .next s') p G hh hclos hcell hkind hnames hx h hs) (fun _ s' hq => wpAny_pure (wpAny_pure hq)) fun _ _ e => e)
end
section
variable {w : World} {A : Around} {mg mb : Str → Option Value} {g : Heap} {L : Addr} {s₁ s : Shared} {ml cl : List (Str × Value)} {elt iter : Expr} {x y₀ : Str} {px py spos pos : Pos} {ifs : List Expr} {scope : Scope} {cs : List (Str × Addr)}
/-- y = [.. for x in ..], y local: the store stands ahead of the comprehension's own letting go -/
theorem comp_ZG {γ : Type} {Q : Flow → Shared → Prop} {E : Value → Shared → Prop} (f : LFZ w mg mb g L) (S : LZ g L s₁ s ml cl) {ax : Addr} {vs : List Value} {n : Nat} (zs : List (Value × γ)) (hz : vs = zs.map Prod.fst) (p : Value → Bool) (G : Value × γ → Value → List (Addr × Obj) → Prop)
    (hsw : swapsWith (.ListComp elt [⟨.Name x px, iter, ifs, 0⟩] scope pos) (some (.Name y₀ py)) spos.line (lawE L) = pure true) (hy : (lawE L).kindOf y₀ = some .local)
    (hh : A.handled = none) (hclos : closureFor scope (lawE L) = pure cs) (hcell : ∀ y ∈ scope.names, y.2 ≠ .cell) (hkind : scope.kind = .function)
    (hnames : ∀ y ∈ scope.names, y.2 = .local → scope.names.lookup y.1 = some .local) (hx : scope.names.lookup x = some .local)
    (hi : wpAny (model P w) A (eval iter (lawE L)) (fun xv s' => Parked (xv = .ref ax ∧ ∃ tk, s' = { s with toks := tk })) E s)
    (hax : s.heap.get? ax = some (W.listOf vs.toArray n)) (hlen : vs.length ≤ 100)
    (ht : ∀ C v s₂ m₂, v ∈ vs → Turn s C x v s₂ m₂ →
        wpAny (model P w) A (forIn ifs true fun c r => if r = true then do let ok ← isTrue c (compEnvC scope cs C (lawE L)) (eval c (compEnvC scope cs C (lawE L))); pure (ForInStep.yield ok) else pure (ForInStep.yield r)) (fun ok s₃ => Parked (ok = p v ∧ KeepC C x v s₂ s₃)) (fun _ _ => False) s₂)
    (he : ∀ C (v : Value × γ) s₂ m₂, v ∈ zs → p v.1 = true → Turn s C x v.1 s₂ m₂ →
        wpAny (model P w) A (eval elt (compEnvC scope cs C (lawE L))) (fun y s₃ => Parked (ExtC C s₂ s₃ ∧ ∃ sp, G v y sp ∧ Supp s₃.heap sp ∧ ∀ q ∈ sp, FreshO s₂.heap q)) (fun _ _ => False) s₂)
    (hQ : ∀ D ys s', LZ g L s₁ s' ((y₀, .ref D) :: ml) cl → StayZ L s s' → Has g L s' D (lst ys) → All2 (fun v y => ∃ sp, G v y sp ∧ Sup L s' sp) (zs.filter fun v => p v.1) ys → s.heap.get? D = none → Q .next s')
    (hs : ∀ x, foldedSetIterable iter (lawE L) x = pure x := by intro _; rfl) :
    wpAny (model P w) A (exec (.Assign [.Name y₀ py] (.ListComp elt [⟨.Name x px, iter, ifs, 0⟩] scope pos) spos) (lawE L)) Q E s := by
  have lt98 := (ti_lt S.ti).1
  have lt16 := (ti_lt S.ti).2
  refine comp_listG p G hsw hh hclos hcell hkind hnames hx (wpAny_mono hi (fun xv s' hv => ?_) fun _ _ q => q) hs
  refine by_G fun G_ back_ => ?_
  obtain ⟨rfl, tk, rfl⟩ := hv
  refine back_ ?_
  clear back_ G_
  refine ⟨ax, vs.toArray, zs, rfl, hz, ⟨_, hax, rfl, _, rfl⟩, by rw [List.size_toArray]; exact Nat.le_trans hlen (by decide), S.ti, S.bare, ?_, ?_, ?_⟩
  · intro C v s₂ m₂ hv hn hm hCs X₂
    refine by_G fun G_ back_ => ?_
    obtain ⟨F₂, N₂⟩ := turn_start X₂ hn hCs
    refine back_ ?_
    clear back_ G_
    exact ht C v s₂ m₂ hv ⟨F₂, N₂, hm, X₂.ti, X₂.bare, Nat.ne_of_gt (Nat.lt_of_lt_of_le lt98 hCs), Nat.ne_of_gt (Nat.lt_of_lt_of_le lt16 hCs)⟩
  · intro C v s₂ m₂ hv hp hn hm hCs X₂
    refine by_G fun G_ back_ => ?_
    obtain ⟨F₂, N₂⟩ := turn_start X₂ hn hCs
    refine back_ ?_
    clear back_ G_
    exact he C v s₂ m₂ hv hp ⟨F₂, N₂, hm, X₂.ti, X₂.bare, Nat.ne_of_gt (Nat.lt_of_lt_of_le lt98 hCs), Nat.ne_of_gt (Nat.lt_of_lt_of_le lt16 hCs)⟩
  · intro D C ys s' m' hD n1 n2 hC c1 c2 hDC X hnC hget hall
    have S0 : LZ g L s₁ { s with toks := tk } ml cl := ⟨S.fr, S.cell, S.ti, S.bare, S.os⟩
    refine by_G fun G_ back_ => ?_
    obtain ⟨S', st⟩ := S0.ext f X
    refine back_ ?_
    clear back_ G_
    have safeC := S0.safe f hC c1 c2
    have safeD := S0.safe f hD n1 n2
    refine wpAny_assign_Name (wpAny_storeName_local hy S'.fr.ns (fun h₂ hn₂ hs₂ => ?_) rfl)
    refine by_G fun G_ back_ => ?_
    obtain ⟨S2, st2⟩ := S'.setL (tk := s'.toks + 1) f hn₂ hs₂
    refine back_ ?_
    clear back_ G_
    rw [lk_cons] at S2
    refine ⟨m', hnC.sameBut hs₂ safeC.1, fun h₃ hs₃ => ?_⟩
    have hnC₂ := hnC.sameBut hs₂ safeC.1
    refine by_G fun G_ back_ => ?_
    obtain ⟨oC, hoC, nc⟩ := notCode_ns hnC₂
    refine back_ ?_
    clear back_ G_
    have cellNe : ∀ x c, (lawCs L).lookup x = some c → c ≠ C := fun x c h z => safeC.2.1 x c h z.symm
    have S3 : LZ g L s₁ { s' with heap := h₃, toks := s'.toks + 1 } ((y₀, .ref D) :: ml) cl := ⟨⟨S2.fr.ns.at' fun o e => hs₃.extBut _ _ (Ne.symm safeC.1) e, fun b o e => hs₃.extBut b o (fun z => by
        have := S.fr.keep b o e
        rw [z, show s.heap.get? C = none from hC] at this; cases this) (S2.fr.keep b o e), S2.fr.above⟩,
      fun x c h => (let ⟨o, q, d⟩ := S2.cell x c h; ⟨o, hs₃.extBut _ _ (cellNe x c h) q, d⟩), S2.ti.change hs₃.extBut hoC nc c1 c2, S2.bare, S2.os⟩
    have toEnd : ∀ b o, SafeZ L b → b ≠ C → s'.heap.get? b = some o → h₃.get? b = some o := fun b o hb hbC e => hs₃.extBut b o hbC (st2 b o hb e)
    refine hQ D ys _ S3 (fun b o hb e => toEnd b o hb (fun z => by rw [z, show s.heap.get? C = none from hC] at e; cases e) (st b o hb e)) ⟨safeD, ?_, toEnd _ _ safeD hDC hget⟩ (hall.mono fun v y ⟨sp, h1, h2, h3⟩ => ⟨sp, h1, fun q hq => ?_⟩) hD
    · cases q : g.get? D with
      | none => rfl
      | some o => rw [show s.heap.get? D = some o from S.fr.keep _ _ q] at hD; cases hD
    · have sq := S0.safeFresh f S' (h3 q hq).1 (h2 q hq)
      exact ⟨sq, toEnd _ _ sq (h3 q hq).2 (h2 q hq)⟩
theorem comp_ZU {Q : Flow → Shared → Prop} {E : Value → Shared → Prop} (f : LFZ w mg mb g L) (S : LZ g L s₁ s ml cl) {ax : Addr} {vs : List Value} {n : Nat} (p : Value → Bool) (G : Value → Value → List (Addr × Obj) → Prop)
    (hsw : swapsWith (.ListComp elt [⟨.Name x px, iter, ifs, 0⟩] scope pos) (some (.Name y₀ py)) spos.line (lawE L) = pure true) (hy : (lawE L).kindOf y₀ = some .local)
    (hh : A.handled = none) (hclos : closureFor scope (lawE L) = pure cs) (hcell : ∀ y ∈ scope.names, y.2 ≠ .cell) (hkind : scope.kind = .function)
    (hnames : ∀ y ∈ scope.names, y.2 = .local → scope.names.lookup y.1 = some .local) (hx : scope.names.lookup x = some .local)
    (hi : wpAny (model P w) A (eval iter (lawE L)) (fun xv s' => Parked (xv = .ref ax ∧ ∃ tk, s' = { s with toks := tk })) E s)
    (hax : s.heap.get? ax = some (W.listOf vs.toArray n)) (hlen : vs.length ≤ 100)
    (ht : ∀ C v s₂ m₂, v ∈ vs → Turn s C x v s₂ m₂ →
        wpAny (model P w) A (forIn ifs true fun c r => if r = true then do let ok ← isTrue c (compEnvC scope cs C (lawE L)) (eval c (compEnvC scope cs C (lawE L))); pure (ForInStep.yield ok) else pure (ForInStep.yield r)) (fun ok s₃ => Parked (ok = p v ∧ KeepC C x v s₂ s₃)) (fun _ _ => False) s₂)
    (he : ∀ C v s₂ m₂, v ∈ vs → p v = true → Turn s C x v s₂ m₂ →
        wpAny (model P w) A (eval elt (compEnvC scope cs C (lawE L))) (fun y s₃ => Parked (ExtC C s₂ s₃ ∧ ∃ sp, G v y sp ∧ Supp s₃.heap sp ∧ ∀ q ∈ sp, FreshO s₂.heap q)) (fun _ _ => False) s₂)
    (hQ : ∀ D ys s', LZ g L s₁ s' ((y₀, .ref D) :: ml) cl → StayZ L s s' → Has g L s' D (lst ys) → All2 (fun v y => ∃ sp, G v y sp ∧ Sup L s' sp) (vs.filter p) ys → s.heap.get? D = none → Q .next s')
    (hs : ∀ x, foldedSetIterable iter (lawE L) x = pure x := by intro _; rfl) :
    wpAny (model P w) A (exec (.Assign [.Name y₀ py] (.ListComp elt [⟨.Name x px, iter, ifs, 0⟩] scope pos) spos) (lawE L)) Q E s :=
  comp_ZG f S (vs.map fun v => (v, ())) (unit_map vs) p (fun v => G v.1) hsw hy hh hclos hcell hkind hnames hx hi hax hlen ht
    (fun C v s₂ m₂ hv hp T => he C v.1 s₂ m₂ (unit_mem hv) hp T)
    (fun D ys s' S' st hD hall hn => hQ D ys s' S' st hD (unit_all2 (R := fun v y => ∃ sp, G v y sp ∧ Sup L s' sp) hall) hn) hs
/-- the elements are values -/
theorem comp_VU {Q : Flow → Shared → Prop} {E : Value → Shared → Prop} (f : LFZ w mg mb g L) (S : LZ g L s₁ s ml cl) {ax : Addr} {vs : List Value} {n : Nat} (p : Value → Bool) (R : Value → Value → Prop)
    (hsw : swapsWith (.ListComp elt [⟨.Name x px, iter, ifs, 0⟩] scope pos) (some (.Name y₀ py)) spos.line (lawE L) = pure true) (hy : (lawE L).kindOf y₀ = some .local)
    (hh : A.handled = none) (hclos : closureFor scope (lawE L) = pure cs) (hcell : ∀ y ∈ scope.names, y.2 ≠ .cell) (hkind : scope.kind = .function)
    (hnames : ∀ y ∈ scope.names, y.2 = .local → scope.names.lookup y.1 = some .local) (hx : scope.names.lookup x = some .local)
    (hi : wpAny (model P w) A (eval iter (lawE L)) (fun xv s' => Parked (xv = .ref ax ∧ ∃ tk, s' = { s with toks := tk })) E s)
    (hax : s.heap.get? ax = some (W.listOf vs.toArray n)) (hlen : vs.length ≤ 100)
    (ht : ∀ C v s₂ m₂, v ∈ vs → Turn s C x v s₂ m₂ →
        wpAny (model P w) A (forIn ifs true fun c r => if r = true then do let ok ← isTrue c (compEnvC scope cs C (lawE L)) (eval c (compEnvC scope cs C (lawE L))); pure (ForInStep.yield ok) else pure (ForInStep.yield r)) (fun ok s₃ => Parked (ok = p v ∧ KeepC C x v s₂ s₃)) (fun _ _ => False) s₂)
    (he : ∀ C v s₂ m₂, v ∈ vs → p v = true → Turn s C x v s₂ m₂ →
        wpAny (model P w) A (eval elt (compEnvC scope cs C (lawE L))) (fun y s₃ => Parked (R v y ∧ KeepC C x v s₂ s₃)) (fun _ _ => False) s₂)
    (hQ : ∀ D ys s', LZ g L s₁ s' ((y₀, .ref D) :: ml) cl → StayZ L s s' → Has g L s' D (lst ys) → All2 R (vs.filter p) ys → s.heap.get? D = none → Q .next s')
    (hs : ∀ x, foldedSetIterable iter (lawE L) x = pure x := by intro _; rfl) :
    wpAny (model P w) A (exec (.Assign [.Name y₀ py] (.ListComp elt [⟨.Name x px, iter, ifs, 0⟩] scope pos) spos) (lawE L)) Q E s :=
  comp_ZU f S p (fun v y sp => sp = [] ∧ R v y) hsw hy hh hclos hcell hkind hnames hx hi hax hlen ht
    (fun C v s₂ m₂ hv hp T => wpAny_mono (he C v s₂ m₂ hv hp T) (fun y s₃ hy => ⟨keepC_extC T hy.2, [], ⟨rfl, hy.1⟩, (fun q hq => by cases hq), (fun q hq => by cases hq)⟩) fun _ _ q => q)
    (fun D ys s' S' st hD hall hn => hQ D ys s' S' st hD (hall.mono fun v y ⟨sp, h1, _⟩ => h1.2) hn) hs
end
end
-- D4
section

end
-- LX4
section
open PyProof.Rows.LCg (lst lst_snoc)
theorem lines_LX4_1 : True := by
  k_with_none
  k_with "call ref" => (k_here; (with_reducible show wpAny _ _ (call (Value.ref 68) [Value.int _ _]) _ _ _); refine' use_mode ?zqF ?zqN ?zqB rfl (Nat.le_of_ble_eq_true rfl) (Nat.le_of_ble_eq_true rfl) ?_; (case zqF => k_asm); (case zqN => k_asm); (case zqB => assumption); intro h' tk' t' F' N'; (try k_sweep))
  trivial
theorem len_p1 : (Str.ofString "{").length = 1 := by decide +kernel
theorem len_p2 : (Str.ofString "}*").length = 2 := by decide +kernel
theorem len_p3 : (Str.ofString "{*}").length = 3 := by decide +kernel
local macro_rules | `(tactic| size_fits) => `(tactic| (simp only [Str.length_append, fm_len, len_p1, len_p2, len_p3]; rw [sizeLine_eq]; omega))
noncomputable def patR (m : Int) : Str := Str.ofString "{" ++ fm m ++ Str.ofString "}*"
noncomputable def patN (wd : Str) : Str := Str.ofString "{*}" ++ wd
noncomputable def patsOf (o q : Int) (wd : Str) : List Str := [patR o, patR q, Str.ofString "{}*", patN wd, Str.ofString "{*}*"]
set_option maxHeartbeats 4000000 in
theorem st_patterns {w : World} {mg mb : Str → Option Value} {g : Heap} {L : Addr} {s₁ s : Shared} {ml cl : List (Str × Value)} {o q : Int} {wd : Str} {ta tb tw : Tok} (f : LFZ w mg mb g L) (S : LZ g L s₁ s ml cl)
    (h1 : cl.lookup (Str.ofString "one") = some (.int o ta)) (h2 : cl.lookup (Str.ofString "other") = some (.int q tb)) (hw : cl.lookup (Str.ofString "wanted") = some (.str wd tw)) (hwl : wd.length ≤ 2) :
    wpAny (model P w) (callerA.deeper (lawE L)) (exec (lawSt 12) (lawE L)) (fun fl s' => fl = .next ∧ ∃ Da, LZ g L s₁ s' ((Str.ofString "patterns", .ref Da) :: ml) cl ∧ StayZ L s s' ∧ HStrs g L s' Da (patsOf o q wd)) (fun _ _ => False) s := by
  conv => arg 3; arg 1; whnf
  refine set_local f (ml := ml) (cl := cl) (s₁ := s₁) (R := fun v s' => ∃ Pa, v = .ref Pa ∧ HStrs g L s' Pa (patsOf o q wd)) rfl ?_ ?_ rfl
  · have F := S.fr
    refine by_G fun G_ back_ => ?_
    obtain ⟨oa, hoa, hda, haL, hag, ha98, ha16⟩ := S.cellAt f (x := Str.ofString "one") rfl h1
    obtain ⟨ob, hob, hdb, hbL, hbg, hb98, hb16⟩ := S.cellAt f (x := Str.ofString "other") rfl h2
    obtain ⟨oc, hoc, hdc, hcL, hcg, hc98, hc16⟩ := S.cellAt f (x := Str.ofString "wanted") rfl hw
    refine back_ ?_
    clear back_ G_
    have N := S.news f (sp := [(_, oa), (_, ob), (_, oc)]) (by
      intro q hq
      rcases List.mem_cons.mp hq with rfl | hq
      · exact ⟨hoa, haL, hag⟩
      · rcases List.mem_cons.mp hq with rfl | hq
        · exact ⟨hob, hbL, hbg⟩
        · rw [List.mem_singleton.mp hq]; exact ⟨hoc, hcL, hcg⟩)
    simp only [List.cons_append, List.nil_append] at N
    have B := f.B
    have X := f.B.x
    refine by_G fun G_ back_ => ?_
    obtain ⟨loose, mean, T⟩ := f.B.t
    refine back_ ?_
    clear back_ G_
    k_steps
    rename_i D5 h5 F5 N5 hlt5
    refine walk_end (R := fun v s' => ∃ Pa, v = .ref Pa ∧ HStrs g L s' Pa (patsOf o q wd)) f S F5 N5 rfl (fun p hp => .tail _ (.tail _ (.tail _ hp))) hlt5.2.2.2 fun hh => ⟨_, rfl, _, _, hh, ?_⟩
    exact .cons _ _ (.cons _ _ (.cons _ _ (.cons _ _ (.cons _ _ .nil))))
  · intro v s' s'' S' st st' ⟨Pa, hv, hh⟩
    subst hv
    exact ⟨rfl, Pa, S', st, hh.stay st'⟩
/-! the sieves -/
noncomputable def tstOf (tag : Str) : Value → Bool :=
  if (tag == Str.ofString "{*}*") = true then strTst fun _ => true
  else if (tag == Str.ofString "{}*") = true then strTst fun x => Txt.item x 0 != Str.ofString "{"
  else if (Txt.slice tag none (some 3) == Str.ofString "{*}") = true then strTst fun x => x == Txt.slice tag (some 3) none || Txt.slice x (some (-(Txt.slice tag (some 2) none).length)) none == Txt.slice tag (some 2) none
  else strTst fun x => Txt.slice x none (some (Txt.slice tag none (some (-1))).length) == Txt.slice tag none (some (-1))
noncomputable def OkPat (tag : Str) : Prop := tag.length ≤ 20 ∧ ((tag == Str.ofString "{*}*") = true ∨ (tag == Str.ofString "{}*") = true ∨ (Txt.slice tag none (some 3) == Str.ofString "{*}") = true ∨ (Txt.slice tag (some (-2)) none == Str.ofString "}*") = true)
theorem c_prep {w : World} {s : Shared} {g : Heap} {mg mb : Str → Option Value} (B : Bs w mg mb g) (kg : ∀ b o, g.get? b = some o → s.heap.get? b = some o) (n16 : g.get? 16 = none)
    (C : CodeHd g 20 16) (I : TI s.heap) (tag : Str) (hok : OkPat tag) (t1 : Tok) : wpAny (model P w) (AA 7) (call (.ref 21) [.str tag t1]) (PrepPost w mg mb (tstOf tag) s) (fun _ _ => False) s := by
  obtain ⟨hlen, h⟩ := hok
  unfold tstOf
  by_cases hk1 : (tag == Str.ofString "{*}*") = true
  · rw [if_pos hk1]; exact c_prep_a B kg n16 C I tag hlen t1 hk1
  · rw [if_neg hk1]
    by_cases hk2 : (tag == Str.ofString "{}*") = true
    · rw [if_pos hk2]; exact c_prep_b B kg n16 C I tag hlen t1 hk1 hk2
    · rw [if_neg hk2]
      by_cases hk3 : (Txt.slice tag none (some 3) == Str.ofString "{*}") = true
      · rw [if_pos hk3]; exact c_prep_c B kg n16 C I tag hlen t1 hk1 hk2 hk3
      · rw [if_neg hk3]
        have hk4 : (Txt.slice tag (some (-2)) none == Str.ofString "}*") = true := by
          rcases h with h | h | h | h
          · exact absurd h hk1
          · exact absurd h hk2
          · exact absurd h hk3
          · exact h
        exact c_prep_d B kg n16 C I tag hlen t1 hk1 hk2 hk3 hk4
noncomputable def HSieve (w : World) (mg mb : Str → Option Value) (L : Addr) (s : Shared) (v : Value) (tag : Str) : Prop := ∃ e sp, v = .ref e ∧ SieveOK w mg mb sp e okTag (tstOf tag) ∧ Sup L s sp
noncomputable def HSieves (w : World) (mg mb : Str → Option Value) (g : Heap) (L : Addr) (s : Shared) (a : Addr) (ps : List Str) : Prop := ∃ vs n, Has g L s a (W.listOf (List.toArray vs) n) ∧ All2 (HSieve w mg mb L s) vs ps
theorem HSieves.stay {w : World} {mg mb : Str → Option Value} {g : Heap} {L a : Addr} {s s' : Shared} {ps : List Str} (h : HSieves w mg mb g L s a ps) (st : StayZ L s s') : HSieves w mg mb g L s' a ps := let ⟨vs, n, h1, h2⟩ := h; ⟨vs, n, h1.stay st, h2.mono fun v is ⟨b, sp, e, hb, hs⟩ => ⟨b, sp, e, hb, hs.stay st⟩⟩
theorem strs_all2 {vs : List Value} {is : List Str} (h : StrsAre vs is) : All2 (fun v i => ∃ t, v = Value.str i t) vs is := by
  induction h with
  | nil => exact .nil
  | cons i t _ ih => exact .cons ⟨t, rfl⟩ ih
theorem lines_LX4_2 : True := by
  k_with "eval Name" => (k_here; (with_reducible show wpAny _ _ (eval (Expr.Name _ _) (compEnvC _ _ _ _)) _ _ _); k_dflt (first | (refine own_C (by k_asm) (by assumption) ?_) | (refine' cell_C ?zqF ?zqc ?zqm ?zqd ?_; (case zqF => k_asm); (case zqc => rfl); (case zqm => assumption); (case zqd => assumption))))
  k_with "call ref" => (k_here; (with_reducible show wpAny _ _ (call (Value.ref 21) _) _ _ _); refine park ?_)
  trivial
set_option maxHeartbeats 1000000 in
theorem st_sieves {w : World} {mg mb : Str → Option Value} {g : Heap} {L Pa : Addr} {s₁ s : Shared} {ml cl : List (Str × Value)} {ps : List Str} (f : LFZ w mg mb g L) (S : LZ g L s₁ s ml cl)
    (hP : ml.lookup (Str.ofString "patterns") = some (.ref Pa)) (hp : HStrs g L s Pa ps) (hok : ∀ x ∈ ps, OkPat x) (hlen : ps.length ≤ 100) :
    wpAny (model P w) (callerA.deeper (lawE L)) (exec (lawSt 13) (lawE L)) (fun fl s' => fl = .next ∧ ∃ Ea, LZ g L s₁ s' ((Str.ofString "sieves", .ref Ea) :: ml) cl ∧ StayZ L s s' ∧ HSieves w mg mb g L s' Ea ps) (fun _ _ => False) s := by
  refine by_G fun G_ back_ => ?_
  obtain ⟨vs, n, hl, hall⟩ := hp
  refine back_ ?_
  clear back_ G_
  have hvl := strs_len hall
  conv => arg 3; arg 1; whnf
  refine comp_ZU f S (fun _ => true) (fun v y sp => ∃ x t e, v = .str x t ∧ y = .ref e ∧ SieveOK w mg mb sp e okTag (tstOf x)) rfl rfl rfl (by with_unfolding_all rfl) (by decide) rfl (by decide) rfl ?_ hl.at' (by omega) (fun C v s₂ m₂ _ T => no_test T) ?_ ?_
  · exact nameX_L S.fr hP ⟨rfl, _, rfl⟩
  · intro C v s₂ m₂ hv _ Tn
    refine by_G fun G_ back_ => ?_
    obtain ⟨F₂, N₂, hm, hti, hbr, hC98, hC16⟩ := id Tn
    obtain ⟨x, hx, t, rfl⟩ := (strs_all2 hall).memL hv
    refine back_ ?_
    clear back_ G_
    have B' := bs_base f S
    have X := B'.x
    refine by_G fun G_ back_ => ?_
    obtain ⟨loose, mean, T⟩ := B'.t
    refine back_ ?_
    clear back_ G_
    have kg : ∀ b o, g.get? b = some o → s₂.heap.get? b = some o := fun b o e => F₂.keep _ _ (base_get (S.fr.keep _ _ e) (fun z => by rw [z, f.n98] at e; cases e) (fun z => by rw [z, f.n16] at e; cases e))
    k_steps
    refine wpAny_mono (wpAny_le (A' := AA 7) (c_prep (s := s₂) f.B kg f.n16 f.c16 hti x (hok x hx) _) rfl (Nat.le_of_ble_eq_true rfl) rfl rfl (Nat.le_of_ble_eq_true rfl)) (fun y s₃ hy => ?_) fun _ _ q => q.elim
    refine by_G fun G_ back_ => ?_
    obtain ⟨e, sp, rfl, hE, hS, hFr, ⟨h', tk, rfl, hk⟩, hti'⟩ := hy
    refine back_ ?_
    clear back_ G_
    exact ⟨⟨h', tk, s₂.gens, m₂, rfl, fun b o _ n1 n2 e => hk b o n1 n2 e, F₂.ns.at' fun o e => hk _ _ hC98 hC16 e, hti', hbr⟩, sp, ⟨x, t, e, rfl, rfl, hE⟩, hS, hFr⟩
  · intro D ys s' S' st hD hR _
    rw [filter_true] at hR
    refine ⟨rfl, D, S', st, ys, _, hD, ?_⟩
    refine all2_comp (fun v y i h1 h2 => ?_) hR (strs_all2 hall)
    refine by_G fun G_ back_ => ?_
    obtain ⟨sp, ⟨i', t, e, rfl, rfl, hE⟩, hS⟩ := h1
    obtain ⟨t', e⟩ := h2
    refine back_ ?_
    clear back_ G_
    cases e
    exact ⟨_, sp, rfl, hE, hS⟩
end
-- LX5
section
open PyProof.Rows.LCg (lst lst_snoc)
/-! elements by functions of their addresses -/
theorem nsO_fun {h : Heap} {dx : Addr} {od : Obj} {m m' : Str → Option Value} (e : h.get? dx = some od) (x : NsO od m) (y : NsO od m') : m = m' := by
  obtain ⟨o, es, ep, e1, hd, hk, hf⟩ := x h dx e
  obtain ⟨o', es', ep', e1', hd', hk', hf'⟩ := y h dx e
  rw [e1] at e1'
  cases e1'
  rw [hd] at hd'
  cases hd'
  funext n
  have a := hf.2 n
  have b := hf'.2 n
  exact a.symm.trans b
theorem Elem.det {h : Heap} {e : Addr} {p t p' t' : Value} (x : Elem h e p t) (y : Elem h e p' t') : p = p' ∧ t = t' := by
  obtain ⟨fd, dx, od, mA, h1, h2, h3, h4, h5, _⟩ := x.ex
  obtain ⟨fd', dx', od', mA', h1', h2', h3', h4', h5', _⟩ := y.ex
  rw [h1] at h1'
  cases h1'
  rw [h2] at h2'
  cases h2'
  have := nsO_fun h2 h3 h3'
  subst this
  rw [h4] at h4'
  rw [h5] at h5'
  exact ⟨Option.some.inj h4', Option.some.inj h5'⟩
open Classical in
noncomputable def plF (h : Heap) (e : Addr) : Value := if x : ∃ p t, Elem h e p t then Classical.choose x else .none
open Classical in
noncomputable def tgF (h : Heap) (e : Addr) : Value := if x : ∃ t p, Elem h e p t then Classical.choose x else .none
theorem plF_is {h : Heap} {e : Addr} {p t : Value} (x : Elem h e p t) : plF h e = p := by
  unfold plF
  rw [dif_pos ⟨p, t, x⟩]
  obtain ⟨t', y⟩ := Classical.choose_spec (⟨p, t, x⟩ : ∃ p t, Elem h e p t)
  exact (y.det x).1
theorem tgF_is {h : Heap} {e : Addr} {p t : Value} (x : Elem h e p t) : tgF h e = t := by
  unfold tgF
  rw [dif_pos ⟨t, p, x⟩]
  obtain ⟨p', y⟩ := Classical.choose_spec (⟨t, p, x⟩ : ∃ t p, Elem h e p t)
  exact (y.det x).2
theorem all2_get {α β : Type} {R : α → β → Prop} : ∀ {as : List α} {bs : List β}, as.length = bs.length → (∀ (i : Nat) a b, as[i]? = some a → bs[i]? = some b → R a b) → All2 R as bs
  | [], [], _, _ => .nil
  | [], _ :: _, h, _ => by cases h
  | _ :: _, [], h, _ => by cases h
  | a :: as, b :: bs, h, hR => .cons (hR 0 a b rfl rfl) (all2_get (Nat.succ.inj h) fun i x y h1 h2 => hR (i + 1) x y h1 h2)
/-- element e is the k-th -/
structure ElAt (s : Shared) (o q : Int) (ns : List Int) (e : Addr) (k : Int) : Prop where
  el : Elem s.heap e (plF s.heap e) (tgF s.heap e)
  pl : ∃ t, plF s.heap e = .int k t
  tag : ∃ t x, 0 ≤ k ∧ ns[k.toNat]? = some x ∧ TagIs (tgF s.heap e) (tagOf (shapeOf x) (modeOf x o q) (nmOf x)) (.int k t)
theorem elems_fun {g : Heap} {L a : Addr} {s : Shared} {o q : Int} {ns : List Int} (h : HElems g L s o q a ns) : ∃ es n, Has g L s a (W.listOf (es.map Value.ref).toArray n) ∧ es.length = ns.length ∧ All2 (ElAt s o q ns) es (rangeKs 0 ns.length) := by
  obtain ⟨vs, n, h1, h2, h3⟩ := h
  have hv : ∃ es : List Addr, vs = es.map Value.ref := by
    have : ∀ v ∈ vs, ∃ e, v = .ref e := fun v hv => by
      obtain ⟨i, hi, rfl⟩ := List.mem_iff_getElem.mp hv
      obtain ⟨v', e', e, _, _, _, rfl, _⟩ := h3 i (ns[i]'(by omega)) (by simp)
      rw [List.getElem?_eq_getElem hi] at e'
      exact ⟨e, Option.some.inj e'⟩
    clear h1 h2 h3
    induction vs with
    | nil => exact ⟨[], rfl⟩
    | cons v r ih =>
      obtain ⟨e, rfl⟩ := this v (.head _)
      obtain ⟨es, rfl⟩ := ih fun v hv => this v (.tail _ hv)
      exact ⟨e :: es, rfl⟩
  obtain ⟨es, rfl⟩ := hv
  rw [List.length_map] at h2
  refine ⟨es, n, h1, h2, all2_get (by rw [rangeKs_length, h2]) fun i e k he hk => ?_⟩
  have hi : i < ns.length := by rw [← h2]; exact (List.getElem?_eq_some_iff.mp he).1
  have hk' : k = (i : Int) := by
    rw [rangeKs, List.getElem?_map, List.getElem?_range hi] at hk
    simpa using (Option.some.inj hk).symm
  subst hk'
  obtain ⟨v, hv, e', tagv, sp, t, rfl, hE, hS, hT⟩ := h3 i ns[i] (by simp)
  rw [List.getElem?_map, he] at hv
  cases hv
  have x := hE _ hS.supp
  refine ⟨by rw [plF_is x, tgF_is x]; exact x, ⟨t, plF_is x⟩, t, ns[i], Int.natCast_nonneg _, by simp, by rw [tgF_is x]; exact hT⟩
/-! tags -/
theorem len_e : (Str.ofString "{").length = 1 := by decide +kernel
theorem len_e1 : (Str.ofString "}").length = 1 := by decide +kernel
theorem len_e2 : (Str.ofString "{}").length = 2 := by decide +kernel
theorem alone_ne {x : Int} (h : (shapeOf x == Str.ofString "alone") = true) : (nmOf x).length ≠ 0 := by
  have hx : x.fmod 5 = 3 := by
    unfold shapeOf at h
    by_cases h1 : x.fmod 5 < 3
    · rw [if_pos h1] at h; exact absurd h (by decide)
    · rw [if_neg h1] at h
      by_cases h2 : x.fmod 5 = 3
      · exact h2
      · rw [if_neg h2] at h
        split at h
        · exact absurd h (by decide)
        · split at h
          · exact absurd h (by decide)
          · exact absurd h (by decide)
  unfold nmOf
  rw [if_pos hx]
  split
  · decide
  · rename_i hne
    unfold nameOf at hne ⊢
    repeat' split
    all_goals first | decide | skip
    simp_all
theorem tag_ok {v : Value} {x m : Int} {k : Int} {t : Tok} (h : TagIs v (tagOf (shapeOf x) m (nmOf x)) (.int k t)) : okTag v := by
  have hn := nmOf_len x
  unfold tagOf at h
  split at h
  · obtain ⟨t', rfl⟩ := h
    refine .inl ⟨_, _, rfl, ?_, ?_⟩ <;> (simp only [Str.length_append, fm_len, len_e, len_e1]; omega)
  · split at h
    · rename_i h2
      obtain ⟨t', rfl⟩ := h
      exact .inl ⟨_, _, rfl, by omega, alone_ne h2⟩
    · split at h
      · obtain ⟨t', rfl⟩ := h
        refine .inl ⟨_, _, rfl, ?_, ?_⟩ <;> (simp only [Str.length_append, fm_len, len_e]; omega)
      · split at h
        · obtain ⟨t', rfl⟩ := h
          refine .inl ⟨_, _, rfl, ?_, ?_⟩ <;> (simp only [Str.length_append, len_e2]; omega)
        · exact .inr ⟨k, t, h⟩
noncomputable def tagTst (t : Value → Bool) : Option Str → Bool
  | some x => t (.str x 0)
  | none => false
theorem tst_str (p : Str → Bool) {v : Value} {o : Option Str} {k : Int} {t : Tok} (h : TagIs v o (.int k t)) : strTst p v = tagTst (strTst p) o := by
  cases o with
  | none => cases h; rfl
  | some x => obtain ⟨t', rfl⟩ := h; rfl
theorem tst_tag (tag : Str) {v : Value} {o : Option Str} {k : Int} {t : Tok} (h : TagIs v o (.int k t)) : tstOf tag v = tagTst (tstOf tag) o := by
  unfold tstOf
  repeat' split
  all_goals exact tst_str _ h
/-- does the sieve let the k-th through -/
noncomputable def thru (ns : List Int) (o q : Int) (tag : Str) (k : Int) : Bool := tagTst (tstOf tag) (let x := ns.getD k.toNat 0; tagOf (shapeOf x) (modeOf x o q) (nmOf x))
theorem ElAt.thru {s : Shared} {o q : Int} {ns : List Int} {e : Addr} {k : Int} (h : ElAt s o q ns e k) (tag : Str) : tstOf tag (tgF s.heap e) = Mine.thru ns o q tag k := by
  obtain ⟨t, x, h0, hx, hT⟩ := h.tag
  rw [tst_tag tag hT]
  unfold Mine.thru
  rw [List.getD_eq_getElem?_getD, hx]
  rfl
theorem ElAt.ok {s : Shared} {o q : Int} {ns : List Int} {e : Addr} {k : Int} (h : ElAt s o q ns e k) : okTag (tgF s.heap e) := by
  obtain ⟨t, x, h0, hx, hT⟩ := h.tag
  exact tag_ok hT
theorem all2_filter {α β : Type} {R : α → β → Prop} {P : α → Bool} {Q : β → Bool} (h : ∀ a b, R a b → P a = Q b) {as : List α} {bs : List β} (x : All2 R as bs) : All2 R (as.filter P) (bs.filter Q) := by
  induction x with
  | nil => exact .nil
  | @cons a b as bs r t ih =>
    rw [List.filter_cons, List.filter_cons, h _ _ r]
    split
    · exact .cons r ih
    · exact ih
theorem all2_ints {s : Shared} {o q : Int} {ns : List Int} {es : List Addr} {is : List Int} (x : All2 (ElAt s o q ns) es is) : IntsAre (es.map (plF s.heap)) is := by
  induction x with
  | nil => exact .nil
  | cons r t ih =>
    obtain ⟨t, e⟩ := r.pl
    rw [List.map_cons, e]
    exact .cons _ _ ih
/-! found -/
theorem KeepsG.ext {s s' : Shared} (k : KeepsG s s') (hT : TI s.heap) : Ext s s' := by
  obtain ⟨h, tk, gs, rfl, k, b⟩ := k
  exact ⟨h, tk, gs, rfl, fun b o _ _ e => k b o e, hT.keeps k, b⟩
theorem Ext.extC2 {C : Addr} {s s' : Shared} {m : Str → Option Value} (X : Ext s s') (hC : s.heap.Ns C m) (n1 : C ≠ 98) (n2 : C ≠ 16) : ExtC C s s' := by
  obtain ⟨h, tk, gs, rfl, k, t, b⟩ := X
  exact ⟨h, tk, gs, m, rfl, fun b o _ n1 n2 e => k b o n1 n2 e, hC.at' fun o e => k _ _ n1 n2 e, t, b⟩
theorem zip_fst {α β : Type} : ∀ {as : List α} {bs : List β}, as.length = bs.length → as = (as.zip bs).map Prod.fst
  | [], [], _ => rfl
  | [], _ :: _, h => by cases h
  | _ :: _, [], h => by cases h
  | a :: as, b :: bs, h => congrArg (a :: ·) (zip_fst (Nat.succ.inj h))
theorem all2_zip {α β : Type} {R : α → β → Prop} {as : List α} {bs : List β} (h : All2 R as bs) {a : α} {b : β} (hm : (a, b) ∈ as.zip bs) : R a b := by
  induction h with
  | nil => cases hm
  | cons r _ ih =>
    rcases List.mem_cons.mp hm with e | hm
    · cases e; exact r
    · exact ih hm
theorem found_end {g : Heap} {L : Addr} {s' : Shared} {F : Str → List Int} {c : Unit} : ∀ {vs : List Value} {ps : List Str} {ys : List Value}, vs.length = ps.length → All2 (fun (v : Value × Str) y => ∃ sp, (∃ b zs, y = .ref b ∧ g.get? b = none ∧ sp = [(b, lst zs)] ∧ IntsAre zs (F v.2)) ∧ Sup L s' sp) (vs.zip ps) ys →
    All2 (fun v is => ∃ b, v = .ref b ∧ HInts g L s' b is) ys (ps.map F)
  | [], [], _, _, h => by cases h; exact .nil
  | [], _ :: _, _, h, _ => by cases h
  | _ :: _, [], _, h, _ => by cases h
  | v :: vs, p :: ps, _, hl, h => by
    cases h with
    | cons r t =>
      obtain ⟨sp, ⟨b, zs, rfl, hb, rfl, hI⟩, hS⟩ := r
      exact .cons ⟨b, rfl, zs, _, ⟨(hS _ (.head _)).1, hb, (hS _ (.head _)).2⟩, hI⟩ (found_end (c := c) (Nat.succ.inj hl) t)
theorem lines_LX5_1 : True := by
  k_with_none
  k_with "eval Name" => (k_here; (with_reducible show wpAny _ _ (eval (Expr.Name _ _) (compEnvC _ _ _ _)) _ _ _); k_dflt (first | (refine own_C (by k_asm) (by assumption) ?_) | (refine' cell_C ?zqF ?zqc ?zqm ?zqd ?_; (case zqF => k_asm); (case zqc => rfl); (case zqm => assumption); (case zqd => assumption))))
  k_with "call ref" => (k_here; (with_reducible show wpAny _ _ (call (Value.ref 108) _) _ _ _); refine park ?_)
  k_with "call ref" => (k_here; (with_reducible show wpAny _ _ (call (Value.ref 113) _) _ _ _); refine park ?_)
  trivial
set_option maxHeartbeats 1000000 in
theorem st_found {w : World} {mg mb : Str → Option Value} {g : Heap} {L Va Ea : Addr} {s₁ s : Shared} {ml cl : List (Str × Value)} {ps : List Str} {o q : Int} {ns : List Int} (f : LFZ w mg mb g L) (S : LZ g L s₁ s ml cl)
    (hV : ml.lookup (Str.ofString "sieves") = some (.ref Va)) (hv : HSieves w mg mb g L s Va ps) (hE : cl.lookup (Str.ofString "elements") = some (.ref Ea)) (he : HElems g L s o q Ea ns) (hlen : ps.length ≤ 100) (hnl : ns.length ≤ 100) :
    wpAny (model P w) (callerA.deeper (lawE L)) (exec (lawSt 14) (lawE L)) (fun fl s' => fl = .next ∧ ∃ Fo, LZ g L s₁ s' ((Str.ofString "found", .ref Fo) :: ml) cl ∧ StayZ L s s' ∧ HLists g L s' Fo (ps.map fun p => (rangeKs 0 ns.length).filter (thru ns o q p))) (fun _ _ => False) s := by
  refine by_G fun G_ back_ => ?_
  obtain ⟨vs, n, hl, hall⟩ := hv
  obtain ⟨es, ne, hle, hel, hA⟩ := elems_fun he
  refine back_ ?_
  clear back_ G_
  have hvl := hall.len
  conv => arg 3; arg 1; whnf
  refine by_G fun G_ back_ => ?_
  obtain ⟨oE, hoE, hdE, _, _, h98, h16⟩ := S.cellAt f (x := Str.ofString "elements") rfl hE
  refine back_ ?_
  clear back_ G_
  have hoE' := base_get hoE h98 h16
  refine comp_ZG f S (vs.zip ps) (zip_fst hvl) (fun _ => true) (fun v y sp => ∃ b zs, y = .ref b ∧ g.get? b = none ∧ sp = [(b, lst zs)] ∧ IntsAre zs ((rangeKs 0 ns.length).filter (thru ns o q v.2))) rfl rfl rfl (by with_unfolding_all rfl) (by decide) rfl (by decide) rfl ?_ hl.at' (by omega) (fun C v s₂ m₂ _ T => no_test T) ?_ ?_
  · exact nameX_L S.fr hV ⟨rfl, _, rfl⟩
  · intro C hpat1 s₂ m₂ hv _ Tn
    refine by_G fun G_ back_ => ?_
    obtain ⟨v, x⟩ := hpat1
    refine back_ ?_
    clear back_ G_
    refine by_G fun G_ back_ => ?_
    obtain ⟨F₂, N₂, hm, hti, hbr, hC98, hC16⟩ := id Tn
    obtain ⟨e, sp, rfl, hS, hsp⟩ := all2_zip hall hv
    refine back_ ?_
    clear back_ G_
    have B' := bs_base f S
    have X := B'.x
    refine by_G fun G_ back_ => ?_
    obtain ⟨loose, mean, T⟩ := B'.t
    refine back_ ?_
    clear back_ G_
    have kb : ∀ b o, b ≠ 98 → b ≠ 16 → s.heap.get? b = some o → s₂.heap.get? b = some o := fun b o n1 n2 e => F₂.keep _ _ (base_get e n1 n2)
    have kg : ∀ b o, g.get? b = some o → s₂.heap.get? b = some o := fun b o e => kb b o (fun z => by rw [z, f.n98] at e; cases e) (fun z => by rw [z, f.n16] at e; cases e) (S.fr.keep _ _ e)
    k_steps
    refine wpAny_mono (wpAny_le (A' := AA 5) (c_through0 (s := s₂) (f.B.keeps kg) hbr (sp := sp) (es := es) (tg := tgF s.heap) hS (fun q hq => kb _ _ (hsp q hq).1.2.2.1 (hsp q hq).1.2.2.2 (hsp q hq).2) ⟨_, kb _ _ hle.safe.2.2.1 hle.safe.2.2.2 hle.at', rfl, _, rfl⟩
      (fun e he => (let ⟨k, _, hk⟩ := hA.memL he; ⟨_, hk.el.but kb⟩)) (fun e he => (let ⟨k, _, hk⟩ := hA.memL he; hk.ok)) (by omega)) rfl (Nat.le_of_ble_eq_true rfl) rfl rfl (Nat.le_of_ble_eq_true rfl)) (fun y s₃ hy => ?_) fun _ _ q => q.elim
    refine by_G fun G_ back_ => ?_
    obtain ⟨D, rfl, hD0, hD, hKG⟩ := hy
    refine back_ ?_
    clear back_ G_
    have X3 := hKG.ext hti
    refine by_G fun G_ back_ => ?_
    obtain ⟨h3, tk3, gs3, rfl, k3, b3⟩ := hKG
    refine back_ ?_
    clear back_ G_
    have F₃ := fr_keeps F₂ k3
    have N₃ := news_keeps N₂ k3
    clear F₂ N₂
    k_steps
    refine wpAny_mono (wpAny_le (A' := AA 5) (c_places0 (s := { s₂ with heap := h3, toks := tk3, gens := gs3 }) (g := g) f.B (fun b o e => k3 b o (kg b o e)) f.n98 f.n16 X3.ti b3 (es := es.filter fun e => tstOf x (tgF s.heap e)) (pl := plF s.heap) ⟨_, hD, rfl, _, rfl⟩
      (fun e he => (let ⟨k, _, hk⟩ := hA.memL (List.mem_filter.mp he).1; ⟨_, hk.el.but fun b o n1 n2 q => k3 b o (kb b o n1 n2 q)⟩)) (fun e he => (let ⟨k, _, hk⟩ := hA.memL (List.mem_filter.mp he).1; ⟨k, hk.pl⟩)) (Nat.le_trans (List.length_filter_le _ _) (by omega))) rfl (Nat.le_of_ble_eq_true rfl) rfl rfl (Nat.le_of_ble_eq_true rfl)) (fun y s₄ hy => ?_) fun _ _ q => q.elim
    refine by_G fun G_ back_ => ?_
    obtain ⟨D', rfl, hD0', hn1, hn2, hD', X4⟩ := hy
    refine back_ ?_
    clear back_ G_
    have hD2 : s₂.heap.get? D' = none := by
      cases z : s₂.heap.get? D' with
      | none => rfl
      | some o => rw [show Heap.get? h3 D' = some o from k3 _ _ z] at hD0'; cases hD0'
    have hDg : g.get? D' = none := by
      cases z : g.get? D' with
      | none => rfl
      | some o => rw [kg _ _ z] at hD2; cases hD2
    refine ⟨(X3.trans X4).extC2 Tn.1.ns hC98 hC16, [(D', _)], ⟨D', _, rfl, hDg, rfl, all2_ints (all2_filter (fun a b h => h.thru x) hA)⟩, ?_, ?_⟩
    · intro q hq
      rw [List.mem_singleton.mp hq]; exact hD'
    · intro q hq
      rw [List.mem_singleton.mp hq]
      exact ⟨hn1, hn2, .inl hD2⟩
  · intro D ys s' S' st hD hR _
    rw [List.filter_eq_self.mpr (fun _ _ => rfl)] at hR
    refine ⟨rfl, D, S', st, ys, _, hD, ?_⟩
    exact found_end (c := ()) (F := fun p => (rangeKs 0 ns.length).filter (thru ns o q p)) hvl hR
end
-- LX6
section
open PyProof.Rows.LCg (lst lst_snoc)
/-! comparing what is the same -/
theorem rd_ints {h : Heap} {vs : List Value} {is : List Int} (x : IntsAre vs is) : ReadsAll h vs (kqdPs (is.map Dat.int)) [] := by
  induction x with
  | nil => exact .nil
  | cons i t _ ih => exact ReadsAll.cons (Reads.int i t) ih
theorem rd_strs {h : Heap} {vs : List Value} {is : List Str} (x : StrsAre vs is) : ReadsAll h vs (kqdPs (is.map Dat.str)) [] := by
  induction x with
  | nil => exact .nil
  | cons i t _ ih => exact ReadsAll.cons (Reads.str i t) ih
noncomputable def datI (is : List Int) : Dat := .list (is.map Dat.int)
noncomputable def datS (xs : List Str) : Dat := .list (xs.map Dat.str)
theorem rd_I {h : Heap} {a : Addr} {vs : List Value} {n : Nat} {is : List Int} (ha : h.get? a = some (W.listOf vs.toArray n)) (x : IntsAre vs is) : ∃ as, Reads h (.ref a) (kqdP (datI is)) as := by
  unfold datI; rw [kqdP]; exact ⟨_, reads_list_at ha rfl rfl (by simpa using rd_ints x)⟩
theorem rd_S {h : Heap} {a : Addr} {vs : List Value} {n : Nat} {is : List Str} (ha : h.get? a = some (W.listOf vs.toArray n)) (x : StrsAre vs is) : ∃ as, Reads h (.ref a) (kqdP (datS is)) as := by
  unfold datS; rw [kqdP]; exact ⟨_, reads_list_at ha rfl rfl (by simpa using rd_strs x)⟩
theorem HInts.rd {g : Heap} {L a : Addr} {s : Shared} {is : List Int} (h : HInts g L s a is) : ∃ as, Reads s.heap (.ref a) (kqdP (datI is)) as := let ⟨_, _, h1, h2⟩ := h; rd_I h1.at' h2
noncomputable def datL (iss : List (List Int)) : Dat := .list (iss.map datI)
theorem HLists.rd {g : Heap} {L a : Addr} {s : Shared} {iss : List (List Int)} (h : HLists g L s a iss) : ∃ as, Reads s.heap (.ref a) (kqdP (datL iss)) as := by
  obtain ⟨vs, n, h1, h2⟩ := h
  have : ∃ as, ReadsAll s.heap vs (kqdPs (iss.map datI)) as := by
    clear h1
    induction h2 with
    | nil => exact ⟨_, .nil⟩
    | cons r _ ih =>
      obtain ⟨b, rfl, hb⟩ := r
      obtain ⟨as, h3⟩ := hb.rd
      obtain ⟨bs, h4⟩ := ih
      exact ⟨_, ReadsAll.cons h3 h4⟩
  obtain ⟨as, h3⟩ := this
  unfold datL; rw [kqdP]; exact ⟨_, reads_list_at h1.at' rfl rfl (by simpa using h3)⟩
theorem ok_I (is : List Int) : ∀ n, kqdOk (n + 1) (datI is) = true := fun n => by unfold datI; cases n <;> simp [kqdOk]
theorem ok_L (iss : List (List Int)) : kqdOk 8 (datL iss) = true := by unfold datL; simp only [kqdOk, List.all_map]; rw [List.all_eq_true]; intro x _; exact ok_I x 6
section
variable {prog : Program} {w : World} {A : Around} {E : Value → Shared → Prop} {s : Shared} {a b : Value} {d : Dat} {as bs : List Addr} {Q : Value → Shared → Prop}
theorem dat_shaped (ok : kqdOk 8 d = true) : SeqAt.shaped (kqdP d) = true := by
  have l := kqd_lay 8 d ok
  unfold SeqAt.shaped; rw [l.1, Bool.true_and]; exact decide_eq_true (Nat.le_trans l.2 (by decide))
theorem ne_same (ra : Reads s.heap a (kqdP d) as) (rb : Reads s.heap b (kqdP d) bs) (ok : kqdOk 8 d = true) (hu : A.units + 64 < cLine) (h : Q (.bool false) s) : wpAny (model prog w) A (compareOp .NotEq a b) Q E s := by
  refine ne_dataH ra rb (dat_shaped ok) (dat_shaped ok) hu ?_
  rw [(kqd_eqv 8 d d 8 ok ok).mpr rfl]
  exact h
theorem eq_same (ra : Reads s.heap a (kqdP d) as) (rb : Reads s.heap b (kqdP d) bs) (ok : kqdOk 8 d = true) (hu : A.units + 64 < cLine) (h : Q (.bool true) s) : wpAny (model prog w) A (compareOp .Eq a b) Q E s := by
  refine eq_dataH ra rb (dat_shaped ok) (dat_shaped ok) hu ?_
  rw [(kqd_eqv 8 d d 8 ok ok).mpr rfl]
  exact h
end
theorem lines_LX6_1 : True := by
  k_with_none
  k_with "eval Name" => (k_here; k_dflt (refine' nameX_L ?zqF ?zqx ?_; (case zqF => k_asm); (case zqx => assumption)))
  k_with "compareOp NotEq ref ref" => (k_here; k_dflt (refine' ne_same ?zqa ?zqb ?zqk ?zqu ?_; (case zqa => assumption); (case zqb => assumption); (case zqk => assumption); (case zqu => exact Nat.lt_of_succ_le (Nat.le_of_ble_eq_true rfl))))
  trivial
theorem LS.toks {w : World} {mg mb : Str → Option Value} {g : Heap} {L : Addr} {s₁ s : Shared} {ml cl : List (Str × Value)} (_f : LFZ w mg mb g L) (S : LZ g L s₁ s ml cl) (tk : Nat) : LZ g L s₁ { s with toks := tk } ml cl ∧ StayZ L s { s with toks := tk } := ⟨⟨S.fr, S.cell, S.ti, S.bare, S.os⟩, fun _ _ _ e => e⟩
set_option maxHeartbeats 1000000 in
theorem st_if {w : World} {mg mb : Str → Option Value} {g : Heap} {L Fo Du : Addr} {s₁ s : Shared} {ml cl : List (Str × Value)} {iss : List (List Int)} (f : LFZ w mg mb g L) (S : LZ g L s₁ s ml cl)
    (hF : ml.lookup (Str.ofString "found") = some (.ref Fo)) (hf : HLists g L s Fo iss) (hD : ml.lookup (Str.ofString "dues") = some (.ref Du)) (hd : HLists g L s Du iss) :
    wpAny (model P w) (callerA.deeper (lawE L)) (exec (lawSt 15) (lawE L)) (fun fl s' => Parked (fl = .next ∧ LZ g L s₁ s' ml cl ∧ StayZ L s s')) (fun _ _ => False) s := by
  conv => arg 3; arg 1; whnf
  obtain ⟨as, ra⟩ := hf.rd
  obtain ⟨bs, rb⟩ := hd.rd
  have ok := ok_L iss
  have F := S.fr
  have N := S.news f (sp := []) (by intro q hq; cases hq)
  have X := f.B.x
  obtain ⟨loose, mean, T⟩ := f.B.t
  have hF' : lk ml (Str.ofString "found") = some (.ref Fo) := hF
  have hD' : lk ml (Str.ofString "dues") = some (.ref Du) := hD
  k_steps
  exact ⟨rfl, S.toks f _⟩
end
-- LX7
section
open PyProof.Rows.LCg (lst lst_snoc)
section
variable {w : World} {A : Around} {mg mb : Str → Option Value} {g : Heap} {L : Addr} {s₁ s : Shared} {ml cl : List (Str × Value)}
/-- a safe object that is no code changes -/
theorem LS.setB {s' : Shared} (f : LFZ w mg mb g L) (S : LZ g L s₁ s' ml cl) {I : Addr} {oI : Obj} {h' : Heap} {tk : Nat} (hI : SafeZ L I) (hg : g.get? I = none) (e : s'.heap.get? I = some oI) (nc : NotCode oI) (k : ∀ b o, b ≠ I → s'.heap.get? b = some o → h'.get? b = some o) : LZ g L s₁ { s' with heap := h', toks := tk } ml cl := by
  refine ⟨⟨S.fr.ns.at' fun o e => k _ _ (Ne.symm hI.1) e, fun b o q => k b o (fun z => by rw [z, hg] at q; cases q) (S.fr.keep b o q), S.fr.above⟩, fun x c h => ?_, S.ti.change k e nc hI.2.2.1 hI.2.2.2, S.bare, S.os⟩
  obtain ⟨o, q, d⟩ := S.cell x c h
  exact ⟨o, k _ _ (fun z => hI.2.1 x c h z.symm) q, d⟩
/-- for x in range(2) in law's frame -/
theorem for_two {E : Value → Shared → Prop} {Q : Flow → Shared → Prop} {x : Str} {px pos : Pos} {iter : Expr} {body : List Stmt} (f : LFZ w mg mb g L) (S : LZ g L s₁ s ml cl) (J : List (Str × Value) → Prop) (h0 : J ml)
    (hh : A.handled = none) (hx : (lawE L).kindOf x = some .local)
    (hev : wpAny (model P w) A (eval iter (lawE L)) (fun v s' => Parked (∃ r t u v', v = .ref r ∧ LZ g L s₁ s' ml cl ∧ StayZ L s s' ∧ IsRange s'.heap r 0 2 1 t u v')) E s)
    (turn : ∀ (i : Int) ml' s' t, i = 0 ∨ i = 1 → LZ g L s₁ s' ((x, .int i t) :: ml') cl → StayZ L s s' → J ml' →
      wpAny (model P w) A (execs body (lawE L)) (fun fl s'' => Parked (fl = .next ∧ StayZ L s' s'' ∧ ∃ ml'', LZ g L s₁ s'' ml'' cl ∧ J ml'')) (fun _ _ => False) s')
    (fin : ∀ ml' s', LZ g L s₁ s' ml' cl → StayZ L s s' → J ml' → Q .next s')
    (hs : ∀ x, foldedSetIterable iter (lawE L) x = pure x := by intro _; rfl) :
    wpAny (model P w) A (exec (.For (.Name x px) iter body [] pos) (lawE L)) Q E s := by
  refine wpAny_For (wpAny_mono hev (fun v s' hv => ?_) fun _ _ q => q) hs
  refine by_G fun G_ back_ => ?_
  obtain ⟨r, t, u, v', rfl, S', st, hr⟩ := hv
  refine back_ ?_
  clear back_ G_
  refine wpAny_pyIter_range hr (by decide) ?_
  rw [show Builtin.Range.rangeSize 0 2 1 = 2 from by decide]
  have hIn : s'.heap.get? s'.heap.objs.size = none := Heap.get?_none_of_le (Nat.le_refl _)
  have hti := ti_lt S'.ti
  have safeI : SafeZ L s'.heap.objs.size := S'.safe f hIn (Nat.ne_of_gt hti.1) (Nat.ne_of_gt hti.2)
  have hgI : g.get? s'.heap.objs.size = none := by
    cases q : g.get? s'.heap.objs.size with
    | none => rfl
    | some o => rw [S'.fr.keep _ _ q] at hIn; cases hIn
  have hpush : IsRangeIter (s'.heap.push { cls := .type "range_iterator", data := .fields #[rawInt 0, rawInt 2, rawInt 1] }) s'.heap.objs.size 0 2 1 := Heap.get?_push_size _ rfl
  have hkp : ∀ b o, s'.heap.get? b = some o → (s'.heap.push { cls := .type "range_iterator", data := .fields #[rawInt 0, rawInt 2, rawInt 1] }).get? b = some o := fun b o e => Heap.get?_push_of_some _ e
  generalize s'.heap.push { cls := .type "range_iterator", data := .fields #[rawInt 0, rawInt 2, rawInt 1] } = H at hpush hkp ⊢
  generalize s'.heap.objs.size = I at *
  have S0 : LZ g L s₁ { s' with heap := H } ml cl := (S'.ext f ((Ext.refl S'.ti S'.bare).keep (tk := s'.toks) hkp)).1
  have st0 : StayZ L s { s' with heap := H } := fun b o hb e => hkp _ _ (st b o hb e)
  have hsI : s.heap.get? I = none := by
    cases q : s.heap.get? I with
    | none => rfl
    | some o => rw [show s'.heap.get? I = some o from st _ _ safeI q] at hIn; cases hIn
  have ncI : ∀ a b c : Int, NotCode { cls := .type "range_iterator", dict := none, data := .fields #[rawInt a, rawInt b, rawInt c], slots := #[] } := fun a b c vs x t e q => by cases e; cases q
  clear hkp hr S' st hIn hti
  refine codeAny_forLoop_any (fun k s₂ => ∃ (j : Nat) (ml' : List (Str × Value)), j ≤ 2 ∧ k = 2 - j ∧ IsRangeIter s₂.heap I (j : Int) (2 - (j : Int)) 1 ∧ LZ g L s₁ s₂ ml' cl ∧ StayZ L s s₂ ∧ J ml') ?_ 2 ⟨0, ml, by omega, rfl, (by rw [show ((0 : Nat) : Int) = 0 from rfl, Int.sub_zero]; exact hpush), S0, st0, h0⟩
  intro k s₂ hpat1
  refine by_G fun G_ back_ => ?_
  obtain ⟨j, ml', hj, rfl, hit, S₂, st₂, hJ⟩ := hpat1
  refine back_ ?_
  clear back_ G_
  by_cases hlt : j < 2
  · refine wpAny_pyNext_range_item hit (by omega) fun h₃ hit₃ hs₃ => ?_
    replace hs₃ : Heap.SameBut I s₂.heap h₃ := hs₃
    have S₃ := S₂.setB (tk := s₂.toks + 1) f safeI hgI hit (ncI _ _ _) hs₃.extBut
    have st₃ : StayZ L s { s₂ with heap := h₃, toks := s₂.toks + 1 } := fun b o hb e => hs₃.extBut b o (fun z => by rw [z, hsI] at e; cases e) (st₂ b o hb e)
    refine wpAny_of_eq (rfl : letOwnedTupleGo (.Name x px) (.ref I) (.int (j : Int) s₂.toks) = pure ()) ?_
    refine wpAny_assign_Name (wpAny_storeName_local hx S₃.fr.ns (fun h₄ hn₄ hs₄ => ?_) rfl)
    refine by_G fun G_ back_ => ?_
    obtain ⟨S₄, st₄⟩ := S₃.setL (tk := s₂.toks + 1 + 1) f hn₄ hs₄
    refine back_ ?_
    clear back_ G_
    rw [lk_cons] at S₄
    have hit₄ : IsRangeIter h₄ I ((j : Int) + 1) (2 - (j : Int) - 1) 1 := st₄ _ _ safeI hit₃
    refine wpAny_mono (turn (j : Int) ml' _ s₂.toks (by omega) S₄ (st₃.trans st₄) hJ) (fun fl s₅ hf => ?_) (fun _ _ e => e.elim)
    refine by_G fun G_ back_ => ?_
    obtain ⟨rfl, st₅, ml'', S₅, hJ'⟩ := hf
    refine back_ ?_
    clear back_ G_
    refine ⟨2 - (j + 1), by omega, j + 1, ml'', by omega, rfl, ?_, S₅, (st₃.trans st₄).trans st₅, hJ'⟩
    have := st₅ _ _ safeI hit₄
    rw [show ((j + 1 : Nat) : Int) = (j : Int) + 1 from by omega, show (2 : Int) - ((j : Int) + 1) = 2 - (j : Int) - 1 from by omega]
    exact this
  · refine by_G fun G_ back_ => ?_
    obtain rfl : j = 2 := by omega
    refine back_ ?_
    clear back_ G_
    refine wpAny_pyNext_range_end hh hit (by omega) fun h₃ hs₃ => ?_
    refine wpAny_pure (fin ml' _ (S₂.setB (tk := s₂.toks) f safeI hgI hit (ncI _ _ _) hs₃) (fun b o hb e => hs₃ b o (fun z => by rw [z, hsI] at e; cases e) (st₂ b o hb e)) hJ)
/-- y = [k for k in ints if ..], y local -/
theorem comp_KU {iter c : Expr} {x y₀ : Str} {px py pe pos spos : Pos} {scope : Scope} {cs : List (Str × Addr)} {Q : Flow → Shared → Prop} {E : Value → Shared → Prop} (f : LFZ w mg mb g L) (S : LZ g L s₁ s ml cl) {ax : Addr} {is : List Int} (pk : Int → Bool)
    (hsw : swapsWith (.ListComp (.Name x pe) [⟨.Name x px, iter, [c], 0⟩] scope pos) (some (.Name y₀ py)) spos.line (lawE L) = pure true) (hy : (lawE L).kindOf y₀ = some .local)
    (hh : A.handled = none) (hclos : closureFor scope (lawE L) = pure cs) (hcell : ∀ y ∈ scope.names, y.2 ≠ .cell) (hkind : scope.kind = .function)
    (hnames : ∀ y ∈ scope.names, y.2 = .local → scope.names.lookup y.1 = some .local) (hx : scope.names.lookup x = some .local) (hb : (x == ("__debug__" : Str)) = false)
    (hi : wpAny (model P w) A (eval iter (lawE L)) (fun xv s' => Parked (xv = .ref ax ∧ ∃ tk, s' = { s with toks := tk })) E s)
    (hax : HInts g L s ax is) (hlen : is.length ≤ 100)
    (ht : ∀ C k t s₂ m₂, k ∈ is → Turn s C x (.int k t) s₂ m₂ →
        wpAny (model P w) A (isTrue c (compEnvC scope cs C (lawE L)) (eval c (compEnvC scope cs C (lawE L)))) (fun ok s₃ => Parked (ok = pk k ∧ KeepC C x (.int k t) s₂ s₃)) (fun _ _ => False) s₂)
    (hQ : ∀ D s', LZ g L s₁ s' ((y₀, .ref D) :: ml) cl → StayZ L s s' → HInts g L s' D (is.filter pk) → Q .next s')
    (hs : ∀ x, foldedSetIterable iter (lawE L) x = pure x := by intro _; rfl) :
    wpAny (model P w) A (exec (.Assign [.Name y₀ py] (.ListComp (.Name x pe) [⟨.Name x px, iter, [c], 0⟩] scope pos) spos) (lawE L)) Q E s := by
  obtain ⟨vs, n, hl, hall⟩ := hax
  have hvl := ints_len hall
  refine comp_VU f S (intTst pk) (fun v y => y = v) hsw hy hh hclos hcell hkind hnames hx hi hl.at' (by omega) ?_ ?_ ?_ hs
  · intro C v s₂ m₂ hv T
    obtain ⟨k, hk, t, rfl⟩ := (ints_all2 hall).memL hv
    exact wpAny_tests_one (ht C k t s₂ m₂ hk T)
  · intro C v s₂ m₂ hv _ T
    exact own_C T.1 T.2.2.1 ⟨rfl, _, _, _, rfl, fun _ _ _ e => e, T.1.ns, T.2.2.1⟩ hkind (lookup_relabel_local hx) hb
  · intro D ys s' S' st hD hR _
    rw [all2_self hR] at hD
    exact hQ D s' S' st ⟨_, _, hD, ints_filter hall⟩
end
section
variable {prog : Program} {w : World} {A : Around} {E : Value → Shared → Prop} {s : Shared} {h₀ : Heap} {L D : Addr} {m : Str → Option Value} {news : List (Addr × Obj)} {n : Nat} {us : List Value} {Q : Value → Shared → Prop}
/-- an item of a list of the ledger -/
theorem item_new {value slice : Expr} {k : Int} {u : Tok} {x : Value} (N : News h₀ L s.heap news) (hT : (D, listOf us.toArray n) ∈ news) (h0 : 0 ≤ k) (hx : us[k.toNat]? = some x) (hl : us.length ≤ 100) (h : Q x s)
    (hs : subscripted slice false (.ref D) (.int k u) = operate [.ref D, .int k u] (getItem (.ref D) (.int k u)) := by with_unfolding_all rfl) :
    wpAny (model prog w) A (subscriptTail value slice (.ref D) (.int k u)) Q E s := by
  have hk : k.toNat < us.length := (List.getElem?_eq_some_iff.mp hx).1
  have hl' : s.heap.IsList D us.toArray := ⟨_, (N _ hT).1, rfl, _, rfl⟩
  exact tail_any hl'.typeIs slot_list_getitem.lookup (wpAny_getItem_list hl' h0 (by omega) (by simpa using hx) h) hs
end
noncomputable def forBody : Stmt → List Stmt
  | .For _ _ b _ _ => b
  | _ => []
noncomputable def loopSt (n : Nat) : Stmt := atOf (forBody (lawSt 16)) n
theorem lines_LX7_1 : True := by
  k_with_none
  k_with "eval Name" => (k_here; (with_reducible show wpAny _ _ (eval (Expr.Name _ _) (compEnvC _ _ _ _)) _ _ _); k_dflt (first | (refine own_C (by k_asm) (by assumption) ?_) | (refine' cell_C ?zqF ?zqc ?zqm ?zqd ?_; (case zqF => k_asm); (case zqc => rfl); (case zqm => assumption); (case zqd => assumption))))
  k_with "eval Name" => (k_here; (with_reducible show wpAny _ _ (eval (Expr.Name _ _) (lawE _)) _ _ _); k_dflt (refine' nameX_L ?zqF ?zqx ?_; (case zqF => k_asm); (case zqx => assumption)))
  k_with "subscriptTail" => (k_here; k_dflt (first | (refine' item_new ?zqN ?zqT ?zqh0 ?zqx ?zql ?_; (case zqN => k_asm); (case zqT => k_mem); (case zqh0 => first | assumption | decide); (case zqx => assumption); (case zql => assumption)) | (refine' item_lst ?zqF ?zqT ?zqh0 ?zqx ?zql ?_; (case zqF => k_asm); (case zqT => assumption); (case zqh0 => assumption); (case zqx => assumption); (case zql => assumption))))
  k_with "call ref" => (k_here; (with_reducible show wpAny _ _ (call (Value.ref 108) _) _ _ _); refine park ?_)
  k_with "call ref" => (k_here; (with_reducible show wpAny _ _ (call (Value.ref 113) _) _ _ _); refine park ?_)
  trivial
noncomputable def named (ns : List Int) (wd : Str) (k : Int) : Bool := (ns.map nmOf).getD k.toNat (Str.ofString "") == wd
set_option maxHeartbeats 1000000 in
theorem st_both {w : World} {mg mb : Str → Option Value} {g : Heap} {L Du Na : Addr} {s₁ s : Shared} {ml cl : List (Str × Value)} {iss : List (List Int)} {is : List Int} {ns : List Int} {wd : Str} {tw ti : Tok} {i : Int} (f : LFZ w mg mb g L) (S : LZ g L s₁ s ml cl)
    (hD : ml.lookup (Str.ofString "dues") = some (.ref Du)) (hd : HLists g L s Du iss) (hK : ml.lookup (Str.ofString "k") = some (.int i ti)) (hi0 : 0 ≤ i) (hi : iss[i.toNat]? = some is) (hil : iss.length ≤ 100)
    (hN : cl.lookup (Str.ofString "names") = some (.ref Na)) (hn : HStrs g L s Na (ns.map nmOf)) (hw : cl.lookup (Str.ofString "wanted") = some (.str wd tw)) (hlen : ns.length ≤ 100) (his : ∀ k ∈ is, 0 ≤ k ∧ k.toNat < ns.length) (hisl : is.length ≤ 100) :
    wpAny (model P w) (callerA.deeper (lawE L)) (exec (loopSt 0) (lawE L)) (fun fl s' => fl = .next ∧ ∃ Bo, LZ g L s₁ s' ((Str.ofString "both", .ref Bo) :: ml) cl ∧ StayZ L s s' ∧ HInts g L s' Bo (is.filter (named ns wd))) (fun _ _ => False) s := by
  conv => arg 3; arg 1; whnf
  refine by_G fun G_ back_ => ?_
  obtain ⟨vd, nd, hld, halld⟩ := hd
  obtain ⟨vb, hvb, b, rfl, hb⟩ := halld.getR _ _ hi
  refine back_ ?_
  clear back_ G_
  have hd100 : vd.length ≤ 100 := by rw [halld.len]; exact hil
  refine comp_KU f S (named ns wd) rfl rfl rfl (by with_unfolding_all rfl) (by decide) rfl (by decide) rfl (by decide) ?_ hb hisl ?_ ?_
  · have F := S.fr
    have N := S.news f (sp := [(Du, _)]) (by intro q hq; rw [List.mem_singleton.mp hq]; exact ⟨hld.at', hld.safe.1, hld.new⟩)
    simp only [List.cons_append, List.nil_append] at N
    have X := f.B.x
    refine by_G fun G_ back_ => ?_
    obtain ⟨loose, mean, T⟩ := f.B.t
    refine back_ ?_
    clear back_ G_
    have hD' : lk ml (Str.ofString "dues") = some (.ref Du) := hD
    have hK' : lk ml (Str.ofString "k") = some (.int i ti) := hK
    k_steps
    exact ⟨rfl, _, rfl⟩
  · intro C k t s₂ m₂ hk Tn
    refine by_G fun G_ back_ => ?_
    obtain ⟨hk0, hkn⟩ := his k hk
    obtain ⟨F₂, N₂, hm, _⟩ := id Tn
    obtain ⟨oa, hoa, hda, _, _, h98a, h16a⟩ := S.cellAt f (x := Str.ofString "names") rfl hN
    refine back_ ?_
    clear back_ G_
    have hoa' := base_get hoa h98a h16a
    refine by_G fun G_ back_ => ?_
    obtain ⟨oc, hoc, hdc, _, _, h98c, h16c⟩ := S.cellAt f (x := Str.ofString "wanted") rfl hw
    refine back_ ?_
    clear back_ G_
    have hoc' := base_get hoc h98c h16c
    refine by_G fun G_ back_ => ?_
    obtain ⟨vN, nN, hlN, hallN⟩ := hn
    refine back_ ?_
    clear back_ G_
    have hlN' := hlN.base
    have hN100 : vN.length ≤ 100 := by rw [strs_len hallN]; simpa using hlen
    refine by_G fun G_ back_ => ?_
    obtain ⟨xN, hxN⟩ : ∃ x, (ns.map nmOf)[k.toNat]? = some x := ⟨_, List.getElem?_eq_getElem (by simpa using hkn)⟩
    obtain ⟨tN, htN⟩ := strs_getR hallN _ _ hxN
    refine back_ ?_
    clear back_ G_
    have hdef : named ns wd k = (xN == wd) := by unfold named; rw [List.getD_eq_getElem?_getD, hxN]; rfl
    rw [hdef]
    have B' := bs_base f S
    have X := B'.x
    refine by_G fun G_ back_ => ?_
    obtain ⟨loose, mean, T⟩ := B'.t
    refine back_ ?_
    clear back_ G_
    k_steps
    exact ⟨rfl, turn_end Tn.1 (by assumption) (by assumption) hm⟩
  · intro D s' S' st hI
    exact ⟨rfl, D, S', st, hI⟩
end
-- LX8
section
open PyProof.Rows.LCg (lst lst_snoc)
theorem lines_LX8_1 : True := by
  k_with_none
  k_with "eval Name" => (k_here; (with_reducible show wpAny _ _ (eval (Expr.Name _ _) (lawE _)) _ _ _); k_dflt (refine' nameX_L ?zqF ?zqx ?_; (case zqF => k_asm); (case zqx => assumption)))
  k_with "subscriptTail" => (k_here; k_dflt (refine' item_new ?zqN ?zqT ?zqh0 ?zqx ?zql ?_; (case zqN => k_asm); (case zqT => k_mem); (case zqh0 => first | assumption | decide); (case zqx => assumption); (case zql => assumption)))
  k_with "call ref" => (k_here; (with_reducible show wpAny _ _ (call (Value.ref 108) _) _ _ _); refine park ?_)
  k_with "call ref" => (k_here; (with_reducible show wpAny _ _ (call (Value.ref 113) _) _ _ _); refine park ?_)
  k_with "compareOp NotEq ref ref" => (k_here; k_dflt (refine' ne_same ?zqa ?zqb ?zqk ?zqu ?_; (case zqa => assumption); (case zqb => assumption); (case zqk => assumption); (case zqu => exact Nat.lt_of_succ_le (Nat.le_of_ble_eq_true rfl))))
  trivial
/-- what bears a sieve, the elements, while the walk goes on -/
theorem HSieve.sup {w : World} {mg mb : Str → Option Value} {L : Addr} {s s' : Shared} {v : Value} {tag : Str} (h : HSieve w mg mb L s v tag) (st : StayZ L s s') : HSieve w mg mb L s' v tag := let ⟨b, sp, e, hb, hs⟩ := h; ⟨b, sp, e, hb, hs.stay st⟩
set_option maxHeartbeats 2000000 in
theorem st_if1 {w : World} {mg mb : Str → Option Value} {g : Heap} {L Va Ea Bo : Addr} {s₁ s : Shared} {ml cl : List (Str × Value)} {ps : List Str} {ti : Tok} {i o q : Int} {ns is : List Int} {tgK tg3 : Str} (f : LFZ w mg mb g L) (S : LZ g L s₁ s ml cl)
    (hV : ml.lookup (Str.ofString "sieves") = some (.ref Va)) (hv : HSieves w mg mb g L s Va ps) (hE : cl.lookup (Str.ofString "elements") = some (.ref Ea)) (he : HElems g L s o q Ea ns) (hnl : ns.length ≤ 100)
    (hK : ml.lookup (Str.ofString "k") = some (.int i ti)) (hi0 : 0 ≤ i) (hpK : ps[i.toNat]? = some tgK) (hp3 : ps[(3 : Int).toNat]? = some tg3) (hpl : ps.length ≤ 100)
    (hB : ml.lookup (Str.ofString "both") = some (.ref Bo)) (hb : HInts g L s Bo is) (hlaw : ((rangeKs 0 ns.length).filter (thru ns o q tgK)).filter (thru ns o q tg3) = is) :
    wpAny (model P w) (callerA.deeper (lawE L)) (exec (loopSt 1) (lawE L)) (fun fl s' => Parked (fl = .next ∧ LZ g L s₁ s' ml cl ∧ StayZ L s s')) (fun _ _ => False) s := by
  conv => arg 3; arg 1; whnf
  refine by_G fun G_ back_ => ?_
  obtain ⟨vs, n, hl, hall⟩ := hv
  obtain ⟨es, ne, hle, hel, hA⟩ := elems_fun he
  refine back_ ?_
  clear back_ G_
  have hs100 : vs.length ≤ 100 := by rw [hall.len]; exact hpl
  refine by_G fun G_ back_ => ?_
  obtain ⟨vK, hvK, eK, spK, rfl, hSK, hspK⟩ := hall.getR _ _ hpK
  obtain ⟨v3, hv3, e3, sp3, rfl, hS3, hsp3⟩ := hall.getR _ _ hp3
  obtain ⟨oE, hoE, hdE, hEL, hEg, _⟩ := S.cellAt f (x := Str.ofString "elements") rfl hE
  refine back_ ?_
  clear back_ G_
  have hV' : lk ml (Str.ofString "sieves") = some (.ref Va) := hV
  have hK' : lk ml (Str.ofString "k") = some (.int i ti) := hK
  have hB' : lk ml (Str.ofString "both") = some (.ref Bo) := hB
  have X := f.B.x
  refine by_G fun G_ back_ => ?_
  obtain ⟨loose, mean, T⟩ := f.B.t
  refine back_ ?_
  clear back_ G_
  have st0 : StayZ L s s := Stay.refl
  have F := S.fr
  have N := S.news f (sp := [(_, oE), (Va, _)]) (by
    intro q hq
    rcases List.mem_cons.mp hq with rfl | hq
    · exact ⟨hoE, hEL, hEg⟩
    · rw [List.mem_singleton.mp hq]; exact ⟨hl.at', hl.safe.1, hl.new⟩)
  simp only [List.cons_append, List.nil_append] at N
  k_steps
  refine wpAny_mono (wpAny_le (A' := AA 5) (c_through0 (s := { s with toks := s.toks + 1 }) (f.B.keeps S.fr.keep) S.bare (sp := spK) (es := es) (tg := tgF s.heap) hSK hspK.supp ⟨_, hle.at', rfl, _, rfl⟩
    (fun e he => (let ⟨k, _, hk⟩ := hA.memL he; ⟨_, hk.el⟩)) (fun e he => (let ⟨k, _, hk⟩ := hA.memL he; hk.ok)) (by omega)) rfl (Nat.le_of_ble_eq_true rfl) rfl rfl (Nat.le_of_ble_eq_true rfl)) (fun y s₃ hy => ?_) fun _ _ q => False.elim q
  refine by_G fun G_ back_ => ?_
  obtain ⟨D, rfl, hD0, hD, hKG⟩ := hy
  refine back_ ?_
  clear back_ G_
  have X3 := hKG.ext (s := { s with toks := s.toks + 1 }) S.ti
  refine by_G fun G_ back_ => ?_
  obtain ⟨S3, st3⟩ := (S.toks f _).1.ext f X3
  refine back_ ?_
  clear back_ G_
  have kb : ∀ b o, b ≠ 98 → b ≠ 16 → s.heap.get? b = some o → s₃.heap.get? b = some o := fun b o n1 n2 e => X3.get b o n1 n2 e
  clear F N
  have F := S3.fr
  have N := S3.news f (sp := []) (by intro q hq; cases hq)
  k_steps
  refine wpAny_mono (wpAny_le (A' := AA 5) (c_through0 (s := s₃) (f.B.keeps S3.fr.keep) S3.bare (sp := sp3) (es := es.filter fun e => tstOf tgK (tgF s.heap e)) (tg := tgF s.heap) hS3 (hsp3.stay st3).supp ⟨_, hD, rfl, _, rfl⟩
    (fun e he => (let ⟨k, _, hk⟩ := hA.memL (List.mem_filter.mp he).1; ⟨_, hk.el.but kb⟩)) (fun e he => (let ⟨k, _, hk⟩ := hA.memL (List.mem_filter.mp he).1; hk.ok)) (Nat.le_trans (List.length_filter_le _ _) (by omega))) rfl (Nat.le_of_ble_eq_true rfl) rfl rfl (Nat.le_of_ble_eq_true rfl)) (fun y s₄ hy => ?_) fun _ _ q => False.elim q
  refine by_G fun G_ back_ => ?_
  obtain ⟨D', rfl, hD0', hD', hKG'⟩ := hy
  refine back_ ?_
  clear back_ G_
  have X4 := hKG'.ext S3.ti
  refine by_G fun G_ back_ => ?_
  obtain ⟨S4, st4⟩ := S3.ext f X4
  refine back_ ?_
  clear back_ G_
  clear F N
  have F := S4.fr
  have N := S4.news f (sp := []) (by intro q hq; cases hq)
  k_steps
  refine wpAny_mono (wpAny_le (A' := AA 5) (c_places0 (s := s₄) (g := g) f.B S4.fr.keep f.n98 f.n16 S4.ti S4.bare (es := (es.filter fun e => tstOf tgK (tgF s.heap e)).filter fun e => tstOf tg3 (tgF s.heap e)) (pl := plF s.heap) ⟨_, hD', rfl, _, rfl⟩
    (fun e he => (let ⟨k, _, hk⟩ := hA.memL (List.mem_filter.mp (List.mem_filter.mp he).1).1; ⟨_, hk.el.but fun b o n1 n2 q => X4.get b o n1 n2 (kb b o n1 n2 q)⟩)) (fun e he => (let ⟨k, _, hk⟩ := hA.memL (List.mem_filter.mp (List.mem_filter.mp he).1).1; ⟨k, hk.pl⟩)) (Nat.le_trans (List.length_filter_le _ _) (Nat.le_trans (List.length_filter_le _ _) (by omega)))) rfl (Nat.le_of_ble_eq_true rfl) rfl rfl (Nat.le_of_ble_eq_true rfl)) (fun y s₅ hy => ?_) fun _ _ q => False.elim q
  refine by_G fun G_ back_ => ?_
  obtain ⟨D5, rfl, hD05, hn1, hn2, hD5, X5⟩ := hy
  obtain ⟨S5, st5⟩ := S4.ext f X5
  refine back_ ?_
  clear back_ G_
  have hF1 := all2_filter (P := fun e => tstOf tgK (tgF s.heap e)) (Q := thru ns o q tgK) (fun a b (h : ElAt s o q ns a b) => h.thru tgK) hA
  have hF2 := all2_filter (P := fun e => tstOf tg3 (tgF s.heap e)) (Q := thru ns o q tg3) (fun a b (h : ElAt s o q ns a b) => h.thru tg3) hF1
  rw [hlaw] at hF2
  have hI := all2_ints hF2
  refine by_G fun G_ back_ => ?_
  obtain ⟨as, ra⟩ := rd_I hD5 hI
  refine back_ ?_
  clear back_ G_
  have stA : StayZ L s s₅ := (show StayZ L s s₃ from st3).trans (st4.trans st5)
  refine by_G fun G_ back_ => ?_
  obtain ⟨bs, rb⟩ := (hb.stay stA).rd
  refine back_ ?_
  clear back_ G_
  have ok := ok_I is 7
  clear F N
  have F := S5.fr
  have N := S5.news f (sp := []) (by intro q hq; cases hq)
  k_steps
  exact ⟨rfl, (S5.toks f _).1, stA.trans (S5.toks f _).2⟩
set_option maxHeartbeats 2000000 in
theorem st_if2 {w : World} {mg mb : Str → Option Value} {g : Heap} {L Va Ea Bo : Addr} {s₁ s : Shared} {ml cl : List (Str × Value)} {ps : List Str} {ti : Tok} {i o q : Int} {ns is : List Int} {tgK tg3 : Str} (f : LFZ w mg mb g L) (S : LZ g L s₁ s ml cl)
    (hV : ml.lookup (Str.ofString "sieves") = some (.ref Va)) (hv : HSieves w mg mb g L s Va ps) (hE : cl.lookup (Str.ofString "elements") = some (.ref Ea)) (he : HElems g L s o q Ea ns) (hnl : ns.length ≤ 100)
    (hK : ml.lookup (Str.ofString "k") = some (.int i ti)) (hi0 : 0 ≤ i) (hpK : ps[i.toNat]? = some tgK) (hp3 : ps[(3 : Int).toNat]? = some tg3) (hpl : ps.length ≤ 100)
    (hB : ml.lookup (Str.ofString "both") = some (.ref Bo)) (hb : HInts g L s Bo is) (hlaw : ((rangeKs 0 ns.length).filter (thru ns o q tg3)).filter (thru ns o q tgK) = is) :
    wpAny (model P w) (callerA.deeper (lawE L)) (exec (loopSt 2) (lawE L)) (fun fl s' => Parked (fl = .next ∧ LZ g L s₁ s' ml cl ∧ StayZ L s s')) (fun _ _ => False) s := by
  conv => arg 3; arg 1; whnf
  refine by_G fun G_ back_ => ?_
  obtain ⟨vs, n, hl, hall⟩ := hv
  obtain ⟨es, ne, hle, hel, hA⟩ := elems_fun he
  refine back_ ?_
  clear back_ G_
  have hs100 : vs.length ≤ 100 := by rw [hall.len]; exact hpl
  refine by_G fun G_ back_ => ?_
  obtain ⟨vK, hvK, eK, spK, rfl, hSK, hspK⟩ := hall.getR _ _ hpK
  obtain ⟨v3, hv3, e3, sp3, rfl, hS3, hsp3⟩ := hall.getR _ _ hp3
  obtain ⟨oE, hoE, hdE, hEL, hEg, _⟩ := S.cellAt f (x := Str.ofString "elements") rfl hE
  refine back_ ?_
  clear back_ G_
  have hV' : lk ml (Str.ofString "sieves") = some (.ref Va) := hV
  have hK' : lk ml (Str.ofString "k") = some (.int i ti) := hK
  have hB' : lk ml (Str.ofString "both") = some (.ref Bo) := hB
  have X := f.B.x
  refine by_G fun G_ back_ => ?_
  obtain ⟨loose, mean, T⟩ := f.B.t
  refine back_ ?_
  clear back_ G_
  have st0 : StayZ L s s := Stay.refl
  have F := S.fr
  have N := S.news f (sp := [(_, oE), (Va, _)]) (by
    intro q hq
    rcases List.mem_cons.mp hq with rfl | hq
    · exact ⟨hoE, hEL, hEg⟩
    · rw [List.mem_singleton.mp hq]; exact ⟨hl.at', hl.safe.1, hl.new⟩)
  simp only [List.cons_append, List.nil_append] at N
  k_steps
  refine wpAny_mono (wpAny_le (A' := AA 5) (c_through0 (s := { s with toks := s.toks + 1 }) (f.B.keeps S.fr.keep) S.bare (sp := sp3) (es := es) (tg := tgF s.heap) hS3 hsp3.supp ⟨_, hle.at', rfl, _, rfl⟩
    (fun e he => (let ⟨k, _, hk⟩ := hA.memL he; ⟨_, hk.el⟩)) (fun e he => (let ⟨k, _, hk⟩ := hA.memL he; hk.ok)) (by omega)) rfl (Nat.le_of_ble_eq_true rfl) rfl rfl (Nat.le_of_ble_eq_true rfl)) (fun y s₃ hy => ?_) fun _ _ q => False.elim q
  refine by_G fun G_ back_ => ?_
  obtain ⟨D, rfl, hD0, hD, hKG⟩ := hy
  refine back_ ?_
  clear back_ G_
  have X3 := hKG.ext (s := { s with toks := s.toks + 1 }) S.ti
  refine by_G fun G_ back_ => ?_
  obtain ⟨S3, st3⟩ := (S.toks f _).1.ext f X3
  refine back_ ?_
  clear back_ G_
  have kb : ∀ b o, b ≠ 98 → b ≠ 16 → s.heap.get? b = some o → s₃.heap.get? b = some o := fun b o n1 n2 e => X3.get b o n1 n2 e
  clear F N
  have F := S3.fr
  have N := S3.news f (sp := []) (by intro q hq; cases hq)
  k_steps
  refine wpAny_mono (wpAny_le (A' := AA 5) (c_through0 (s := s₃) (f.B.keeps S3.fr.keep) S3.bare (sp := spK) (es := es.filter fun e => tstOf tg3 (tgF s.heap e)) (tg := tgF s.heap) hSK (hspK.stay st3).supp ⟨_, hD, rfl, _, rfl⟩
    (fun e he => (let ⟨k, _, hk⟩ := hA.memL (List.mem_filter.mp he).1; ⟨_, hk.el.but kb⟩)) (fun e he => (let ⟨k, _, hk⟩ := hA.memL (List.mem_filter.mp he).1; hk.ok)) (Nat.le_trans (List.length_filter_le _ _) (by omega))) rfl (Nat.le_of_ble_eq_true rfl) rfl rfl (Nat.le_of_ble_eq_true rfl)) (fun y s₄ hy => ?_) fun _ _ q => False.elim q
  refine by_G fun G_ back_ => ?_
  obtain ⟨D', rfl, hD0', hD', hKG'⟩ := hy
  refine back_ ?_
  clear back_ G_
  have X4 := hKG'.ext S3.ti
  refine by_G fun G_ back_ => ?_
  obtain ⟨S4, st4⟩ := S3.ext f X4
  refine back_ ?_
  clear back_ G_
  clear F N
  have F := S4.fr
  have N := S4.news f (sp := []) (by intro q hq; cases hq)
  k_steps
  refine wpAny_mono (wpAny_le (A' := AA 5) (c_places0 (s := s₄) (g := g) f.B S4.fr.keep f.n98 f.n16 S4.ti S4.bare (es := (es.filter fun e => tstOf tg3 (tgF s.heap e)).filter fun e => tstOf tgK (tgF s.heap e)) (pl := plF s.heap) ⟨_, hD', rfl, _, rfl⟩
    (fun e he => (let ⟨k, _, hk⟩ := hA.memL (List.mem_filter.mp (List.mem_filter.mp he).1).1; ⟨_, hk.el.but fun b o n1 n2 q => X4.get b o n1 n2 (kb b o n1 n2 q)⟩)) (fun e he => (let ⟨k, _, hk⟩ := hA.memL (List.mem_filter.mp (List.mem_filter.mp he).1).1; ⟨k, hk.pl⟩)) (Nat.le_trans (List.length_filter_le _ _) (Nat.le_trans (List.length_filter_le _ _) (by omega)))) rfl (Nat.le_of_ble_eq_true rfl) rfl rfl (Nat.le_of_ble_eq_true rfl)) (fun y s₅ hy => ?_) fun _ _ q => False.elim q
  refine by_G fun G_ back_ => ?_
  obtain ⟨D5, rfl, hD05, hn1, hn2, hD5, X5⟩ := hy
  obtain ⟨S5, st5⟩ := S4.ext f X5
  refine back_ ?_
  clear back_ G_
  have hF1 := all2_filter (P := fun e => tstOf tg3 (tgF s.heap e)) (Q := thru ns o q tg3) (fun a b (h : ElAt s o q ns a b) => h.thru tg3) hA
  have hF2 := all2_filter (P := fun e => tstOf tgK (tgF s.heap e)) (Q := thru ns o q tgK) (fun a b (h : ElAt s o q ns a b) => h.thru tgK) hF1
  rw [hlaw] at hF2
  have hI := all2_ints hF2
  refine by_G fun G_ back_ => ?_
  obtain ⟨as, ra⟩ := rd_I hD5 hI
  refine back_ ?_
  clear back_ G_
  have stA : StayZ L s s₅ := (show StayZ L s s₃ from st3).trans (st4.trans st5)
  refine by_G fun G_ back_ => ?_
  obtain ⟨bs, rb⟩ := (hb.stay stA).rd
  refine back_ ?_
  clear back_ G_
  have ok := ok_I is 7
  clear F N
  have F := S5.fr
  have N := S5.news f (sp := []) (by intro q hq; cases hq)
  k_steps
  exact ⟨rfl, (S5.toks f _).1, stA.trans (S5.toks f _).2⟩
end
-- LX9
section
open PyProof.Rows.LCg (lst lst_snoc)
structure JL (Va Du Fo : Addr) (ml : List (Str × Value)) : Prop where
  v : ml.lookup (Str.ofString "sieves") = some (.ref Va)
  d : ml.lookup (Str.ofString "dues") = some (.ref Du)
  f : ml.lookup (Str.ofString "found") = some (.ref Fo)
noncomputable def bothOf (ns : List Int) (o q : Int) (wd : Str) (i : Int) : List Int := ((duesOf ns o q wd).getD i.toNat []).filter (named ns wd)
/-- what the loop asks -/
noncomputable def LoopLaw (ns : List Int) (o q : Int) (wd : Str) : Prop := ∀ i tg, (patsOf o q wd)[i.toNat]? = some tg → i = 0 ∨ i = 1 →
  ((rangeKs 0 ns.length).filter (thru ns o q tg)).filter (thru ns o q (patN wd)) = bothOf ns o q wd i ∧ ((rangeKs 0 ns.length).filter (thru ns o q (patN wd))).filter (thru ns o q tg) = bothOf ns o q wd i
theorem filter_rg {ns : List Int} {p : Int → Bool} : ∀ k ∈ (rangeKs 0 ns.length).filter p, 0 ≤ k ∧ k.toNat < ns.length := fun k hk => rg_mem (List.mem_filter.mp hk).1
set_option maxHeartbeats 1000000 in
theorem st_for {w : World} {mg mb : Str → Option Value} {g : Heap} {L Va Du Fo Ea Na : Addr} {s₁ s : Shared} {ml cl : List (Str × Value)} {o q : Int} {ns : List Int} {wd : Str} {tw : Tok} (f : LFZ w mg mb g L) (S : LZ g L s₁ s ml cl)
    (hJ : JL Va Du Fo ml) (hv : HSieves w mg mb g L s Va (patsOf o q wd)) (hE : cl.lookup (Str.ofString "elements") = some (.ref Ea)) (he : HElems g L s o q Ea ns) (hnl : ns.length ≤ 100)
    (hd : HLists g L s Du (duesOf ns o q wd)) (hN : cl.lookup (Str.ofString "names") = some (.ref Na)) (hn : HStrs g L s Na (ns.map nmOf)) (hw : cl.lookup (Str.ofString "wanted") = some (.str wd tw)) (hlaw : LoopLaw ns o q wd) :
    wpAny (model P w) (callerA.deeper (lawE L)) (exec (lawSt 16) (lawE L)) (fun fl s' => fl = .next ∧ ∃ ml', LZ g L s₁ s' ml' cl ∧ StayZ L s s' ∧ JL Va Du Fo ml') (fun _ _ => False) s := by
  have hrl : ∀ p : Int → Bool, ((rangeKs 0 ns.length).filter p).length ≤ 100 := fun p => Nat.le_trans (List.length_filter_le _ _) (by rw [rangeKs_length]; exact hnl)
  rw [show exec (lawSt 16) (lawE L) = exec (.For _ _ (forBody (lawSt 16)) _ _) (lawE L) from rfl]
  refine for_two f S (JL Va Du Fo) hJ rfl rfl ?_ ?_ (fun ml' s' S' st hJ' => ⟨rfl, ml', S', st, hJ'⟩)
  · have F := S.fr
    have N := S.news f (sp := []) (by intro q hq; cases hq)
    have X := f.B.x
    refine by_G fun G_ back_ => ?_
    obtain ⟨loose, mean, T⟩ := f.B.t
    refine back_ ?_
    clear back_ G_
    k_steps
    obtain ⟨S', st⟩ := S.walk f rfl (by assumption) (by assumption)
    exact ⟨_, _, _, _, rfl, S', st, by assumption⟩
  · intro i ml' s' t hi S' st hJ'
    rw [show forBody (lawSt 16) = [loopSt 0, loopSt 1, loopSt 2] from rfl]
    have hi0 : 0 ≤ i := by omega
    obtain ⟨tg, htg⟩ : ∃ tg, (patsOf o q wd)[i.toNat]? = some tg := by rcases hi with rfl | rfl <;> exact ⟨_, rfl⟩
    obtain ⟨is, his, hisp⟩ : ∃ is, (duesOf ns o q wd)[i.toNat]? = some is ∧ ∃ p, is = (rangeKs 0 ns.length).filter p := by rcases hi with rfl | rfl <;> exact ⟨_, rfl, _, rfl⟩
    refine by_G fun G_ back_ => ?_
    obtain ⟨p, rfl⟩ := hisp
    refine back_ ?_
    clear back_ G_
    have hbo : bothOf ns o q wd i = ((rangeKs 0 ns.length).filter p).filter (named ns wd) := by unfold bothOf; rw [List.getD_eq_getElem?_getD, his]; rfl
    refine by_G fun G_ back_ => ?_
    obtain ⟨l1, l2⟩ := hlaw i tg htg hi
    refine back_ ?_
    clear back_ G_
    rw [hbo] at l1 l2
    refine wpAny_execs_cons (wpAny_mono (st_both f S' (ml := (Str.ofString "k", .int i t) :: ml') (iss := duesOf ns o q wd) (is := (rangeKs 0 ns.length).filter p) hJ'.d (hd.stay st) rfl hi0 his (Nat.le_of_ble_eq_true rfl) hN (hn.stay st) hw hnl filter_rg (hrl p)) (fun fl s₂ h₂ => ?_) fun _ _ q => q)
    refine by_G fun G_ back_ => ?_
    obtain ⟨rfl, Bo, S₂, st₂, hB⟩ := h₂
    refine back_ ?_
    clear back_ G_
    refine wpAny_execs_cons (wpAny_mono (st_if1 f S₂ hJ'.v (hv.stay (st.trans st₂)) hE (he.stay (st.trans st₂)) hnl rfl hi0 htg rfl (Nat.le_of_ble_eq_true rfl) rfl hB l1) (fun fl s₃ h₃ => ?_) fun _ _ q => q)
    refine by_G fun G_ back_ => ?_
    obtain ⟨rfl, S₃, st₃⟩ := h₃
    refine back_ ?_
    clear back_ G_
    refine wpAny_execs_cons (wpAny_mono (st_if2 f S₃ hJ'.v (hv.stay ((st.trans st₂).trans st₃)) hE (he.stay ((st.trans st₂).trans st₃)) hnl rfl hi0 htg rfl (Nat.le_of_ble_eq_true rfl) rfl (hB.stay st₃) l2) (fun fl s₄ h₄ => ?_) fun _ _ q => q)
    refine by_G fun G_ back_ => ?_
    obtain ⟨rfl, S₄, st₄⟩ := h₄
    refine back_ ?_
    clear back_ G_
    exact wpAny_execs_nil ⟨rfl, (st₂.trans st₃).trans st₄, _, S₄, ⟨hJ'.v, hJ'.d, hJ'.f⟩⟩
/-! the names of what was found -/
noncomputable def nameAt (ns : List Int) (k : Int) : Str := (ns.map nmOf).getD k.toNat (Str.ofString "")
noncomputable def NmAt (ns : List Int) (v y : Value) : Prop := ∃ k t t', v = .int k t ∧ y = .str (nameAt ns k) t'
noncomputable def HNames (g : Heap) (L : Addr) (s : Shared) (a : Addr) (xs : List Str) : Prop := ∃ vs, Has g L s a (lst vs) ∧ StrsAre vs xs
theorem HNames.stay {g : Heap} {L a : Addr} {s s' : Shared} {is : List Str} (h : HNames g L s a is) (st : StayZ L s s') : HNames g L s' a is := let ⟨vs, h1, h2⟩ := h; ⟨vs, h1.stay st, h2⟩
theorem lines_LX9_1 : True := by
  k_with_none
  k_with "eval Name" => (k_here; (with_reducible show wpAny _ _ (eval (Expr.Name _ _) (compEnvC _ _ _ _)) _ _ _); k_dflt (first | (refine own_C (by k_asm) (by assumption) ?_) | (refine' cell_C ?zqF ?zqc ?zqm ?zqd ?_; (case zqF => k_asm); (case zqc => rfl); (case zqm => assumption); (case zqd => assumption))))
  k_with "eval Name" => (k_here; (with_reducible show wpAny _ _ (eval (Expr.Name _ _) (lawE _)) _ _ _); k_dflt (refine' nameX_L ?zqF ?zqx ?_; (case zqF => k_asm); (case zqx => assumption)))
  k_with "subscriptTail" => (k_here; k_dflt (first | (refine' item_new ?zqN ?zqT ?zqh0 ?zqx ?zql ?_; (case zqN => k_asm); (case zqT => k_mem); (case zqh0 => first | assumption | decide); (case zqx => assumption); (case zql => assumption)) | (refine' item_lst ?zqF ?zqT ?zqh0 ?zqx ?zql ?_; (case zqF => k_asm); (case zqT => assumption); (case zqh0 => assumption); (case zqx => assumption); (case zql => assumption))))
  trivial
set_option maxHeartbeats 1000000 in
theorem st_first {w : World} {mg mb : Str → Option Value} {g : Heap} {L Fo Na : Addr} {s₁ s : Shared} {ml cl : List (Str × Value)} {iss : List (List Int)} {is : List Int} {ns : List Int} (f : LFZ w mg mb g L) (S : LZ g L s₁ s ml cl)
    (hF : ml.lookup (Str.ofString "found") = some (.ref Fo)) (hf : HLists g L s Fo iss) (hi : iss[(0 : Int).toNat]? = some is) (hil : iss.length ≤ 100)
    (hN : cl.lookup (Str.ofString "names") = some (.ref Na)) (hn : HStrs g L s Na (ns.map nmOf)) (hlen : ns.length ≤ 100) (his : ∀ k ∈ is, 0 ≤ k ∧ k.toNat < ns.length) (hisl : is.length ≤ 100) :
    wpAny (model P w) (callerA.deeper (lawE L)) (exec (lawSt 17) (lawE L)) (fun fl s' => fl = .next ∧ ∃ Bo, LZ g L s₁ s' ((Str.ofString "first", .ref Bo) :: ml) cl ∧ StayZ L s s' ∧ HNames g L s' Bo (is.map (nameAt ns)) ∧ s.heap.get? Bo = none) (fun _ _ => False) s := by
  conv => arg 3; arg 1; whnf
  refine by_G fun G_ back_ => ?_
  obtain ⟨vd, nd, hld, halld⟩ := hf
  obtain ⟨vb, hvb, b, rfl, hb⟩ := halld.getR _ _ hi
  obtain ⟨vs, n, hl, hall⟩ := hb
  refine back_ ?_
  clear back_ G_
  have hvl := ints_len hall
  have hd100 : vd.length ≤ 100 := by rw [halld.len]; exact hil
  refine comp_VU f S (fun _ => true) (NmAt ns) rfl rfl rfl (by with_unfolding_all rfl) (by decide) rfl (by decide) rfl ?_ hl.at' (by omega) (fun C v s₂ m₂ _ T => no_test T) ?_ ?_
  · have F := S.fr
    have N := S.news f (sp := [(Fo, _)]) (by intro q hq; rw [List.mem_singleton.mp hq]; exact ⟨hld.at', hld.safe.1, hld.new⟩)
    simp only [List.cons_append, List.nil_append] at N
    have X := f.B.x
    refine by_G fun G_ back_ => ?_
    obtain ⟨loose, mean, T⟩ := f.B.t
    refine back_ ?_
    clear back_ G_
    have hF' : lk ml (Str.ofString "found") = some (.ref Fo) := hF
    k_steps
    exact ⟨rfl, _, rfl⟩
  · intro C v s₂ m₂ hv _ Tn
    refine by_G fun G_ back_ => ?_
    obtain ⟨k, hk, t, rfl⟩ := (ints_all2 hall).memL hv
    obtain ⟨hk0, hkn⟩ := his k hk
    obtain ⟨F₂, N₂, hm, _⟩ := id Tn
    obtain ⟨oa, hoa, hda, _, _, h98a, h16a⟩ := S.cellAt f (x := Str.ofString "names") rfl hN
    refine back_ ?_
    clear back_ G_
    have hoa' := base_get hoa h98a h16a
    refine by_G fun G_ back_ => ?_
    obtain ⟨vN, nN, hlN, hallN⟩ := hn
    refine back_ ?_
    clear back_ G_
    have hlN' := hlN.base
    have hN100 : vN.length ≤ 100 := by rw [strs_len hallN]; simpa using hlen
    refine by_G fun G_ back_ => ?_
    obtain ⟨xN, hxN⟩ : ∃ x, (ns.map nmOf)[k.toNat]? = some x := ⟨_, List.getElem?_eq_getElem (by simpa using hkn)⟩
    obtain ⟨tN, htN⟩ := strs_getR hallN _ _ hxN
    refine back_ ?_
    clear back_ G_
    have hdef : nameAt ns k = xN := by unfold nameAt; rw [List.getD_eq_getElem?_getD, hxN]; rfl
    have B' := bs_base f S
    have X := B'.x
    refine by_G fun G_ back_ => ?_
    obtain ⟨loose, mean, T⟩ := B'.t
    refine back_ ?_
    clear back_ G_
    k_steps
    exact ⟨⟨k, t, tN, rfl, by rw [hdef]⟩, turn_end Tn.1 (by assumption) (by assumption) hm⟩
  · intro D ys s' S' st hD hR hnew
    rw [filter_true] at hR
    refine ⟨rfl, D, S', st, ⟨ys, hD, ?_⟩, hnew⟩
    refine all2_strsOf (all2_comp (R := fun v i => ∃ t, v = Value.int i t) (S := NmAt ns) (fun v i y h1 h2 => ?_) (ints_all2 hall) hR)
    refine by_G fun G_ back_ => ?_
    obtain ⟨t, rfl⟩ := h1
    obtain ⟨k, t', t'', e, rfl⟩ := h2
    refine back_ ?_
    clear back_ G_
    cases e
    exact ⟨_, rfl⟩
set_option maxHeartbeats 1000000 in
theorem st_second {w : World} {mg mb : Str → Option Value} {g : Heap} {L Fo Na : Addr} {s₁ s : Shared} {ml cl : List (Str × Value)} {iss : List (List Int)} {is : List Int} {ns : List Int} (f : LFZ w mg mb g L) (S : LZ g L s₁ s ml cl)
    (hF : ml.lookup (Str.ofString "found") = some (.ref Fo)) (hf : HLists g L s Fo iss) (hi : iss[(1 : Int).toNat]? = some is) (hil : iss.length ≤ 100)
    (hN : cl.lookup (Str.ofString "names") = some (.ref Na)) (hn : HStrs g L s Na (ns.map nmOf)) (hlen : ns.length ≤ 100) (his : ∀ k ∈ is, 0 ≤ k ∧ k.toNat < ns.length) (hisl : is.length ≤ 100) :
    wpAny (model P w) (callerA.deeper (lawE L)) (exec (lawSt 18) (lawE L)) (fun fl s' => fl = .next ∧ ∃ Bo, LZ g L s₁ s' ((Str.ofString "second", .ref Bo) :: ml) cl ∧ StayZ L s s' ∧ HNames g L s' Bo (is.map (nameAt ns)) ∧ s.heap.get? Bo = none) (fun _ _ => False) s := by
  conv => arg 3; arg 1; whnf
  refine by_G fun G_ back_ => ?_
  obtain ⟨vd, nd, hld, halld⟩ := hf
  obtain ⟨vb, hvb, b, rfl, hb⟩ := halld.getR _ _ hi
  obtain ⟨vs, n, hl, hall⟩ := hb
  refine back_ ?_
  clear back_ G_
  have hvl := ints_len hall
  have hd100 : vd.length ≤ 100 := by rw [halld.len]; exact hil
  refine comp_VU f S (fun _ => true) (NmAt ns) rfl rfl rfl (by with_unfolding_all rfl) (by decide) rfl (by decide) rfl ?_ hl.at' (by omega) (fun C v s₂ m₂ _ T => no_test T) ?_ ?_
  · have F := S.fr
    have N := S.news f (sp := [(Fo, _)]) (by intro q hq; rw [List.mem_singleton.mp hq]; exact ⟨hld.at', hld.safe.1, hld.new⟩)
    simp only [List.cons_append, List.nil_append] at N
    have X := f.B.x
    refine by_G fun G_ back_ => ?_
    obtain ⟨loose, mean, T⟩ := f.B.t
    refine back_ ?_
    clear back_ G_
    have hF' : lk ml (Str.ofString "found") = some (.ref Fo) := hF
    k_steps
    exact ⟨rfl, _, rfl⟩
  · intro C v s₂ m₂ hv _ Tn
    refine by_G fun G_ back_ => ?_
    obtain ⟨k, hk, t, rfl⟩ := (ints_all2 hall).memL hv
    obtain ⟨hk0, hkn⟩ := his k hk
    obtain ⟨F₂, N₂, hm, _⟩ := id Tn
    obtain ⟨oa, hoa, hda, _, _, h98a, h16a⟩ := S.cellAt f (x := Str.ofString "names") rfl hN
    refine back_ ?_
    clear back_ G_
    have hoa' := base_get hoa h98a h16a
    refine by_G fun G_ back_ => ?_
    obtain ⟨vN, nN, hlN, hallN⟩ := hn
    refine back_ ?_
    clear back_ G_
    have hlN' := hlN.base
    have hN100 : vN.length ≤ 100 := by rw [strs_len hallN]; simpa using hlen
    refine by_G fun G_ back_ => ?_
    obtain ⟨xN, hxN⟩ : ∃ x, (ns.map nmOf)[k.toNat]? = some x := ⟨_, List.getElem?_eq_getElem (by simpa using hkn)⟩
    obtain ⟨tN, htN⟩ := strs_getR hallN _ _ hxN
    refine back_ ?_
    clear back_ G_
    have hdef : nameAt ns k = xN := by unfold nameAt; rw [List.getD_eq_getElem?_getD, hxN]; rfl
    have B' := bs_base f S
    have X := B'.x
    refine by_G fun G_ back_ => ?_
    obtain ⟨loose, mean, T⟩ := B'.t
    refine back_ ?_
    clear back_ G_
    k_steps
    exact ⟨⟨k, t, tN, rfl, by rw [hdef]⟩, turn_end Tn.1 (by assumption) (by assumption) hm⟩
  · intro D ys s' S' st hD hR hnew
    rw [filter_true] at hR
    refine ⟨rfl, D, S', st, ⟨ys, hD, ?_⟩, hnew⟩
    refine all2_strsOf (all2_comp (R := fun v i => ∃ t, v = Value.int i t) (S := NmAt ns) (fun v i y h1 h2 => ?_) (ints_all2 hall) hR)
    refine by_G fun G_ back_ => ?_
    obtain ⟨t, rfl⟩ := h1
    obtain ⟨k, t', t'', e, rfl⟩ := h2
    refine back_ ?_
    clear back_ G_
    cases e
    exact ⟨_, rfl⟩
end
-- LX10
section
open PyProof.Rows.LCg (lst lst_snoc)
theorem lines_LX10_1 : True := by
  k_with_none
  k_with "eval Name" => (k_here; (with_reducible show wpAny _ _ (eval (Expr.Name _ _) (lawE _)) _ _ _); k_dflt (refine' nameX_L ?zqF ?zqx ?_; (case zqF => k_asm); (case zqx => assumption)))
  k_with "call ref" => (k_here; (with_reducible show wpAny _ _ (call (Value.ref 120) _) _ _ _); refine park ?_)
  trivial
theorem strs_rev {vs : List Value} {xs : List Str} (h : StrsAre vs xs) : StrsAre vs.reverse xs.reverse := by
  induction h with
  | nil => exact .nil
  | cons i t _ ih => rw [List.reverse_cons, List.reverse_cons]; exact strs_snoc ih i t
theorem has_new {w : World} {mg mb : Str → Option Value} {g : Heap} {L D : Addr} {s₁ s s' : Shared} {ml cl : List (Str × Value)} {o : Obj} (f : LFZ w mg mb g L) (S : LZ g L s₁ s ml cl) (S' : LZ g L s₁ s' ml cl) (X : Ext s s') (hn : s.heap.get? D = none) (h : s'.heap.get? D = some o) : Has g L s' D o := by
  obtain ⟨⟨p1, e1, _⟩, ⟨p2, e2, _⟩⟩ := S.ti
  refine ⟨S.safe f hn (fun z => by rw [z, e1] at hn; cases hn) (fun z => by rw [z, e2] at hn; cases hn), ?_, h⟩
  cases q : g.get? D with
  | none => rfl
  | some o => rw [S.fr.keep _ _ q] at hn; cases hn
set_option maxHeartbeats 1000000 in
theorem st_due {w : World} {mg mb : Str → Option Value} {g : Heap} {L Fi Se : Addr} {s₁ s : Shared} {ml cl : List (Str × Value)} {xs ys : List Str} (f : LFZ w mg mb g L) (S : LZ g L s₁ s ml cl)
    (h1 : ml.lookup (Str.ofString "first") = some (.ref Fi)) (hf : HNames g L s Fi xs) (h2 : ml.lookup (Str.ofString "second") = some (.ref Se)) (hs : HNames g L s Se ys) (hxl : xs.length ≤ 100) (hyl : ys.length ≤ 100) :
    wpAny (model P w) (callerA.deeper (lawE L)) (exec (lawSt 19) (lawE L)) (fun fl s' => fl = .next ∧ ∃ Du D1 D2, LZ g L s₁ s' ((Str.ofString "due", .ref Du) :: ml) cl ∧ StayZ L s s' ∧ Has g L s' Du (tupleO #[.ref D1, .ref D2]) ∧ HNames g L s' D1 (overGo ys [] xs.reverse) ∧ HNames g L s' D2 (overGo xs [] ys) ∧ ∀ b o, SafeZ L b → s.heap.get? b = some o → b ≠ Du ∧ b ≠ D1 ∧ b ≠ D2) (fun _ _ => False) s := by
  conv => arg 3; arg 1; whnf
  refine by_G fun G_ back_ => ?_
  obtain ⟨vf, hlf, hallf⟩ := hf
  obtain ⟨vs, hls, halls⟩ := hs
  refine back_ ?_
  clear back_ G_
  have F := S.fr
  have N := S.news f (sp := [(Fi, _), (Se, _)]) (by
    intro q hq
    rcases List.mem_cons.mp hq with rfl | hq
    · exact ⟨hlf.at', hlf.safe.1, hlf.new⟩
    · rw [List.mem_singleton.mp hq]; exact ⟨hls.at', hls.safe.1, hls.new⟩)
  simp only [List.cons_append, List.nil_append] at N
  have X := f.B.x
  refine by_G fun G_ back_ => ?_
  obtain ⟨loose, mean, T⟩ := f.B.t
  refine back_ ?_
  clear back_ G_
  have h1' : lk ml (Str.ofString "first") = some (.ref Fi) := h1
  have h2' : lk ml (Str.ofString "second") = some (.ref Se) := h2
  refine set_local f (ml := ml) (cl := cl) (s₁ := s₁) (R := fun v s' => ∃ Du D1 D2, v = .ref Du ∧ Has g L s' Du (tupleO #[.ref D1, .ref D2]) ∧ HNames g L s' D1 (overGo ys [] xs.reverse) ∧ HNames g L s' D2 (overGo xs [] ys) ∧ ∀ b o, SafeZ L b → s.heap.get? b = some o → b ≠ Du ∧ b ≠ D1 ∧ b ≠ D2) rfl ?_ ?_ rfl
  · k_steps
    rename_i hP FP NP
    refine by_G fun G_ back_ => ?_
    obtain ⟨SP, stP⟩ := S.walk (tk := s.toks + 1 + 1) f rfl FP (fun p hp => NP p (.tail _ (.tail _ (.tail _ hp))))
    refine back_ ?_
    clear back_ G_
    have hrev := (NP _ (.head _)).1
    rw [krv_pick] at hrev
    refine wpAny_mono (wpAny_le (A' := AA 5) (c_over0 (s := { s with heap := hP, toks := s.toks + 1 + 1 }) (f.B.keeps SP.fr.keep) (va := vf.reverse) (vb := vs) (xa := xs.reverse) (xb := ys) ⟨_, hrev, rfl, _, rfl⟩ (hls.stay stP).at' (strs_rev hallf) halls (by simpa using hxl)) rfl (Nat.le_of_ble_eq_true rfl) rfl rfl (Nat.le_of_ble_eq_true rfl)) (fun y s₃ hy => ?_) fun _ _ q => False.elim q
    refine by_G fun G_ back_ => ?_
    obtain ⟨D1, z1, rfl, hD1n, hD1, hz1, hk1⟩ := hy
    refine back_ ?_
    clear back_ G_
    have X3 := (Ext.refl SP.ti SP.bare).keeps hk1
    refine by_G fun G_ back_ => ?_
    obtain ⟨S3, st3⟩ := SP.ext f X3
    refine back_ ?_
    clear back_ G_
    have hH1 : HNames g L s₃ D1 (overGo ys [] xs.reverse) := ⟨z1, has_new f SP S3 X3 hD1n hD1, hz1⟩
    have st13 := stP.trans st3
    clear F N FP NP
    have F := S3.fr
    have N := S3.news f (sp := []) (by intro q hq; cases hq)
    k_steps
    refine wpAny_mono (wpAny_le (A' := AA 5) (c_over0 (s := s₃) (f.B.keeps S3.fr.keep) (va := vs) (vb := vf) (xa := ys) (xb := xs) ⟨_, (hls.stay st13).at', rfl, _, rfl⟩ (hlf.stay st13).at' halls hallf hyl) rfl (Nat.le_of_ble_eq_true rfl) rfl rfl (Nat.le_of_ble_eq_true rfl)) (fun y s₄ hy => ?_) fun _ _ q => False.elim q
    refine by_G fun G_ back_ => ?_
    obtain ⟨D2, z2, rfl, hD2n, hD2, hz2, hk2⟩ := hy
    refine back_ ?_
    clear back_ G_
    have X4 := (Ext.refl S3.ti S3.bare).keeps hk2
    refine by_G fun G_ back_ => ?_
    obtain ⟨S4, st4⟩ := S3.ext f X4
    refine back_ ?_
    clear back_ G_
    have hH2 : HNames g L s₄ D2 (overGo xs [] ys) := ⟨z2, has_new f S3 S4 X4 hD2n hD2, hz2⟩
    have hH1' := hH1.stay st4
    have st14 := st13.trans st4
    clear F N
    have F := S4.fr
    have N := S4.news f (sp := []) (by intro q hq; cases hq)
    k_steps
    rename_i D5 h5 F5 N5 hlt5
    obtain ⟨r1, r2, r3⟩ := walk_end (R := fun v s'' => v = .ref D5 ∧ Has g L s'' D5 _) f S4 F5 N5 rfl (fun p hp => hp) (allLt_of fun p hp => hlt5 p hp) fun hh => ⟨rfl, hh⟩
    refine ⟨r1, st14.trans r2, D5, D1, D2, rfl, r3.2, hH1'.stay r2, hH2.stay r2, fun b o hb e => ⟨fun z => ?_, fun z => ?_, fun z => ?_⟩⟩
    · have e4 := st14 b o hb e
      have := (hlt5 (b, o) (mem_restC hb.1 (z ▸ r3.2.new) e4))
      exact Nat.lt_irrefl _ (z ▸ this)
    · have := stP b o hb e
      rw [z, hD1n] at this; cases this
    · have := st13 b o hb e
      rw [z, hD2n] at this; cases this
  · intro v s' s'' S' st st' ⟨Du, D1, D2, hv, a, b, c, d⟩
    subst hv
    exact ⟨rfl, Du, D1, D2, S', st, a.stay st', b.stay st', c.stay st', d⟩
theorem lines_LX10_2 : True := by
  k_with "call ref" => (k_here; (with_reducible show wpAny _ _ (call (Value.ref 75) _) _ _ _); refine park ?_)
  k_with "compareOp Eq ref ref" => (k_here; k_dflt (refine' eq_same ?zqa ?zqb ?zqk ?zqu ?_; (case zqa => assumption); (case zqb => assumption); (case zqk => assumption); (case zqu => exact Nat.lt_of_succ_le (Nat.le_of_ble_eq_true rfl))))
  trivial
noncomputable def datT (a b : List Str) : Dat := .tuple [datS a, datS b]
theorem rd_T {h : Heap} {T a b : Addr} {va vb : List Value} {na nb : Nat} {xa xb : List Str} (hT : h.get? T = some (tupleO #[.ref a, .ref b])) (ha : h.get? a = some (W.listOf va.toArray na)) (hb : h.get? b = some (W.listOf vb.toArray nb)) (sa : StrsAre va xa) (sb : StrsAre vb xb) : ∃ as, Reads h (.ref T) (kqdP (datT xa xb)) as := by
  obtain ⟨as, h1⟩ := rd_S ha sa
  obtain ⟨bs, h2⟩ := rd_S hb sb
  unfold datT; rw [kqdP]
  exact ⟨_, reads_tuple_at hT rfl rfl (ReadsAll.cons h1 (ReadsAll.cons h2 ReadsAll.nil))⟩
theorem ok_S {xs : List Str} (h : ∀ x ∈ xs, PyData.strOk x = true) (n : Nat) : kqdOk (n + 1) (datS xs) = true := by
  unfold datS; simp only [kqdOk, List.all_map]; rw [List.all_eq_true]; intro x hx; cases n <;> exact h x hx
theorem ok_T {xa xb : List Str} (ha : ∀ x ∈ xa, PyData.strOk x = true) (hb : ∀ x ∈ xb, PyData.strOk x = true) : kqdOk 8 (datT xa xb) = true := by
  unfold datT; simp only [kqdOk, List.all_cons, List.all_nil, Bool.and_true, Bool.and_eq_true]
  exact ⟨ok_S ha 6, ok_S hb 6⟩
set_option maxHeartbeats 1000000 in
theorem st_ret {w : World} {mg mb : Str → Option Value} {g : Heap} {L Fi Se Du D1 D2 : Addr} {s₁ s : Shared} {ml cl : List (Str × Value)} {xs ys : List Str} (f : LFZ w mg mb g L) (S : LZ g L s₁ s ml cl)
    (h1 : ml.lookup (Str.ofString "first") = some (.ref Fi)) (hf : HNames g L s Fi xs) (h2 : ml.lookup (Str.ofString "second") = some (.ref Se)) (hs : HNames g L s Se ys) (hxl : xs.length ≤ 100) (hyl : ys.length ≤ 100)
    (h3 : ml.lookup (Str.ofString "due") = some (.ref Du)) (hd : Has g L s Du (tupleO #[.ref D1, .ref D2])) (hd1 : HNames g L s D1 (diffGo xs.reverse ys).1) (hd2 : HNames g L s D2 (diffGo xs.reverse ys).2)
    (hne : @Ne Nat Fi Se) (ne1 : @Ne Nat Du Fi ∧ @Ne Nat Du Se) (ne2 : @Ne Nat D1 Fi ∧ @Ne Nat D1 Se) (ne3 : @Ne Nat D2 Fi ∧ @Ne Nat D2 Se)
    (ok1 : ∀ x ∈ (diffGo xs.reverse ys).1, PyData.strOk x = true) (ok2 : ∀ x ∈ (diffGo xs.reverse ys).2, PyData.strOk x = true) :
    wpAny (model P w) (callerA.deeper (lawE L)) (exec (lawSt 20) (lawE L)) (fun fl s' => Parked (fl = .ret (.bool true) ∧ (∀ b o, g.get? b = some o → s'.heap.get? b = some o) ∧ s'.os = s₁.os ∧ AllBare s'.gens ∧ GrownAt 98 s'.heap ∧ GrownAt 16 s'.heap)) (fun _ _ => False) s := by
  conv => arg 3; arg 1; whnf
  refine by_G fun G_ back_ => ?_
  obtain ⟨vf, hlf, hallf⟩ := hf
  obtain ⟨vs, hls, halls⟩ := hs
  refine back_ ?_
  clear back_ G_
  have F := S.fr
  have N := S.news f (sp := []) (by intro q hq; cases hq)
  have X := f.B.x
  refine by_G fun G_ back_ => ?_
  obtain ⟨loose, mean, T⟩ := f.B.t
  refine back_ ?_
  clear back_ G_
  have h1' : lk ml (Str.ofString "first") = some (.ref Fi) := h1
  have h2' : lk ml (Str.ofString "second") = some (.ref Se) := h2
  have h3' : lk ml (Str.ofString "due") = some (.ref Du) := h3
  k_steps
  refine wpAny_mono (c_diff0 (s := s) (g := g) rfl f.B S.fr hlf.at' hls.at' hallf halls hxl hyl hlf.new hls.new hne hlf.safe.1 hls.safe.1) (fun y s₃ hy => ?_) fun _ _ q => False.elim q
  refine by_G fun G_ back_ => ?_
  obtain ⟨⟨Tu, M, vm, vb, nm, nb, h', tk, rfl, rfl, hT, hM, hb, hsm, hsb, hNs, hTL⟩, hkeep⟩ := hy
  refine back_ ?_
  clear back_ G_
  have FE : Fr g L h' (lk ml) := ⟨hNs, fun b o e => hkeep b o (fun z => by rw [z, hlf.new] at e; cases e) (fun z => by rw [z, hls.new] at e; cases e) (fun z => by rw [z, Heap.get?_none_of_le S.fr.above] at e; cases e) (S.fr.keep b o e), S.fr.above⟩
  refine by_G fun G_ back_ => ?_
  obtain ⟨v1, hl1, hs1⟩ := hd1
  obtain ⟨v2, hl2, hs2⟩ := hd2
  obtain ⟨as, ra⟩ := rd_T hT hM hb hsm hsb
  obtain ⟨bs, rb⟩ := rd_T (hkeep _ _ ne1.1 ne1.2 hd.safe.1 hd.at') (hkeep _ _ ne2.1 ne2.2 hl1.safe.1 hl1.at') (hkeep _ _ ne3.1 ne3.2 hl2.safe.1 hl2.at') hs1 hs2
  refine back_ ?_
  clear back_ G_
  have ok := ok_T ok1 ok2
  refine nameX_L FE h3' ?_
  refine eq_same ra rb ok (Nat.lt_of_succ_le (Nat.le_of_ble_eq_true rfl)) ?_
  refine by_G fun G_ back_ => ?_
  obtain ⟨⟨p1, e1, _⟩, ⟨p2, e2, _⟩⟩ := S.ti
  refine back_ ?_
  clear back_ G_
  exact ⟨rfl, FE.keep, S.os, S.bare, ⟨p1, hkeep _ _ (Ne.symm hlf.safe.2.2.1) (Ne.symm hls.safe.2.2.1) (Nat.ne_of_lt f.l98) e1⟩, ⟨p2, hkeep _ _ (Ne.symm hlf.safe.2.2.2) (Ne.symm hls.safe.2.2.2) (Nat.ne_of_lt f.l16) e2⟩⟩
end
-- LX11
section
open PyProof.Rows.LCg (lst lst_snoc)
/-- what the walk wants of the plain side -/
structure PlainOK (ns : List Int) (o q : Int) (wd : Str) : Prop where
  ok : ∀ x ∈ patsOf o q wd, OkPat x
  found : ((patsOf o q wd).map fun p => (rangeKs 0 ns.length).filter (thru ns o q p)) = duesOf ns o q wd
  loop : LoopLaw ns o q wd
  diff1 : ∀ xs ys : List Str, overGo ys [] xs.reverse = (diffGo xs.reverse ys).1
  diff2 : ∀ xs ys : List Str, overGo xs [] ys = (diffGo xs.reverse ys).2
  sub1 : ∀ xs ys : List Str, ∀ x ∈ (diffGo xs.reverse ys).1, x ∈ xs
  sub2 : ∀ xs ys : List Str, ∀ x ∈ (diffGo xs.reverse ys).2, x ∈ ys
  str : ∀ k, PyData.strOk (nameAt ns k) = true
noncomputable def Good (g : Heap) (s₁ : Shared) (fl : Flow) (s' : Shared) : Prop := fl = .ret (.bool true) ∧ (∀ b o, g.get? b = some o → s'.heap.get? b = some o) ∧ s'.os = s₁.os ∧ AllBare s'.gens ∧ GrownAt 98 s'.heap ∧ GrownAt 16 s'.heap
noncomputable def restSt : List Stmt := [lawSt 6, lawSt 7, lawSt 8, lawSt 9, lawSt 10, lawSt 11, lawSt 12, lawSt 13, lawSt 14, lawSt 15, lawSt 16, lawSt 17, lawSt 18, lawSt 19, lawSt 20]
set_option maxHeartbeats 1000000 in
theorem law_rest {w : World} {mg mb : Str → Option Value} {g : Heap} {L Fa : Addr} {s₁ s : Shared} {ml cl : List (Str × Value)} {o q : Int} {ns : List Int} {wd : Str} {ta tb tw : Tok} (f : LFZ w mg mb g L) (S : LZ g L s₁ s ml ((Str.ofString "files", .ref Fa) :: cl))
    (hF : HFiles g L s o q Fa ns) (h1 : cl.lookup (Str.ofString "one") = some (.int o ta)) (h2 : cl.lookup (Str.ofString "other") = some (.int q tb)) (hw : cl.lookup (Str.ofString "wanted") = some (.str wd tw)) (hwl : wd.length ≤ 2) (hlen : ns.length ≤ 100) (PL : PlainOK ns o q wd) :
    wpAny (model P w) (callerA.deeper (lawE L)) (execs restSt (lawE L)) (Good g s₁) (fun _ _ => False) s := by
  have hrl : ∀ p : Int → Bool, ((rangeKs 0 ns.length).filter p).length ≤ 100 := fun p => Nat.le_trans (List.length_filter_le _ _) (by rw [rangeKs_length]; exact hlen)
  refine wpAny_execs_cons (wpAny_mono (st_places f S rfl hF hlen) (fun fl s6 h6 => ?_) fun _ _ q => q)
  refine by_G fun G_ back_ => ?_
  obtain ⟨rfl, Pa, S6, t6, hP⟩ := h6
  refine back_ ?_
  clear back_ G_
  have hF6 := hF.stay t6
  refine wpAny_execs_cons (wpAny_mono (st_shapes f S6 rfl hF6 hlen) (fun fl s7 h7 => ?_) fun _ _ q => q)
  refine by_G fun G_ back_ => ?_
  obtain ⟨rfl, Sa, S7, t7, hS⟩ := h7
  refine back_ ?_
  clear back_ G_
  have hF7 := hF6.stay t7
  have hP7 := hP.stay t7
  refine wpAny_execs_cons (wpAny_mono (st_names f S7 rfl hF7 hlen) (fun fl s8 h8 => ?_) fun _ _ q => q)
  refine by_G fun G_ back_ => ?_
  obtain ⟨rfl, Na, S8, t8, hN⟩ := h8
  refine back_ ?_
  clear back_ G_
  have hF8 := hF7.stay t8
  have hP8 := hP7.stay t8
  have hS8 := hS.stay t8
  refine wpAny_execs_cons (wpAny_mono (st_rights f S8 rfl hF8 hlen) (fun fl s9 h9 => ?_) fun _ _ q => q)
  refine by_G fun G_ back_ => ?_
  obtain ⟨rfl, Ra, S9, t9, hR⟩ := h9
  refine back_ ?_
  clear back_ G_
  have hF9 := hF8.stay t9
  have hP9 := hP8.stay t9
  have hS9 := hS8.stay t9
  have hN9 := hN.stay t9
  refine wpAny_execs_cons (wpAny_mono (st_elements f S9 rfl hF9 rfl hP9 hlen) (fun fl s10 h10 => ?_) fun _ _ q => q)
  refine by_G fun G_ back_ => ?_
  obtain ⟨rfl, Ea, S10, t10, hE⟩ := h10
  refine back_ ?_
  clear back_ G_
  have hP10 := hP9.stay t10
  have hS10 := hS9.stay t10
  have hN10 := hN9.stay t10
  have hR10 := hR.stay t10
  refine wpAny_execs_cons (wpAny_mono (st_dues f S10 rfl hP10 rfl hR10 rfl hS10 rfl hN10 h1 h2 hw hlen) (fun fl s11 h11 => ?_) fun _ _ q => q)
  refine by_G fun G_ back_ => ?_
  obtain ⟨rfl, Du, S11, t11, hD⟩ := h11
  refine back_ ?_
  clear back_ G_
  have hE11 := hE.stay t11
  have hN11 := hN10.stay t11
  refine wpAny_execs_cons (wpAny_mono (st_patterns f S11 h1 h2 hw hwl) (fun fl s12 h12 => ?_) fun _ _ q => q)
  refine by_G fun G_ back_ => ?_
  obtain ⟨rfl, Qa, S12, t12, hQ⟩ := h12
  refine back_ ?_
  clear back_ G_
  have hE12 := hE11.stay t12
  have hN12 := hN11.stay t12
  have hD12 := hD.stay t12
  refine wpAny_execs_cons (wpAny_mono (st_sieves f S12 rfl hQ PL.ok (Nat.le_of_ble_eq_true rfl)) (fun fl s13 h13 => ?_) fun _ _ q => q)
  refine by_G fun G_ back_ => ?_
  obtain ⟨rfl, Va, S13, t13, hV⟩ := h13
  refine back_ ?_
  clear back_ G_
  have hE13 := hE12.stay t13
  have hN13 := hN12.stay t13
  have hD13 := hD12.stay t13
  refine wpAny_execs_cons (wpAny_mono (st_found f S13 rfl hV rfl hE13 (Nat.le_of_ble_eq_true rfl) hlen) (fun fl s14 h14 => ?_) fun _ _ q => q)
  refine by_G fun G_ back_ => ?_
  obtain ⟨rfl, Fo, S14, t14, hFo⟩ := h14
  refine back_ ?_
  clear back_ G_
  rw [PL.found] at hFo
  have hE14 := hE13.stay t14
  have hN14 := hN13.stay t14
  have hD14 := hD13.stay t14
  have hV14 := hV.stay t14
  refine wpAny_execs_cons (wpAny_mono (st_if f S14 rfl hFo rfl hD14) (fun fl s15 h15 => ?_) fun _ _ q => q)
  refine by_G fun G_ back_ => ?_
  obtain ⟨rfl, S15, t15⟩ := h15
  refine back_ ?_
  clear back_ G_
  have hE15 := hE14.stay t15
  have hN15 := hN14.stay t15
  have hD15 := hD14.stay t15
  have hV15 := hV14.stay t15
  have hFo15 := hFo.stay t15
  refine wpAny_execs_cons (wpAny_mono (st_for f S15 (Va := Va) (Du := Du) (Fo := Fo) ⟨rfl, rfl, rfl⟩ hV15 rfl hE15 hlen hD15 rfl hN15 hw PL.loop) (fun fl s16 h16 => ?_) fun _ _ q => q)
  refine by_G fun G_ back_ => ?_
  obtain ⟨rfl, ml', S16, t16, hJ⟩ := h16
  refine back_ ?_
  clear back_ G_
  have hN16 := hN15.stay t16
  have hFo16 := hFo15.stay t16
  refine wpAny_execs_cons (wpAny_mono (st_first f S16 hJ.f hFo16 rfl (Nat.le_of_ble_eq_true rfl) rfl hN16 hlen filter_rg (hrl _)) (fun fl s17 h17 => ?_) fun _ _ q => q)
  refine by_G fun G_ back_ => ?_
  obtain ⟨rfl, Fi, S17, t17, hFi, _⟩ := h17
  refine back_ ?_
  clear back_ G_
  have hN17 := hN16.stay t17
  have hFo17 := hFo16.stay t17
  refine wpAny_execs_cons (wpAny_mono (st_second f S17 hJ.f hFo17 rfl (Nat.le_of_ble_eq_true rfl) rfl hN17 hlen filter_rg (hrl _)) (fun fl s18 h18 => ?_) fun _ _ q => q)
  refine by_G fun G_ back_ => ?_
  obtain ⟨rfl, Se, S18, t18, hSe, hSen⟩ := h18
  refine back_ ?_
  clear back_ G_
  have hne : @Ne Nat Fi Se := fun z => by
    refine by_G fun G_ back_ => ?_
    obtain ⟨_, hx, _⟩ := hFi
    refine back_ ?_
    clear back_ G_
    have := hx.at'
    rw [show Fi = Se from z, hSen] at this; cases this
  have hFi18 := hFi.stay t18
  have hxl : (((rangeKs 0 ns.length).filter (dueR ns o q o)).map (nameAt ns)).length ≤ 100 := by rw [List.length_map]; exact hrl _
  have hyl : (((rangeKs 0 ns.length).filter (dueR ns o q q)).map (nameAt ns)).length ≤ 100 := by rw [List.length_map]; exact hrl _
  refine wpAny_execs_cons (wpAny_mono (st_due f S18 rfl hFi18 rfl hSe hxl hyl) (fun fl s19 h19 => ?_) fun _ _ q => q)
  refine by_G fun G_ back_ => ?_
  obtain ⟨rfl, Tu, D1, D2, S19, t19, hTu, hD1, hD2, hnew⟩ := h19
  refine back_ ?_
  clear back_ G_
  rw [PL.diff1] at hD1
  rw [PL.diff2] at hD2
  have nF : Fi ≠ Tu ∧ Fi ≠ D1 ∧ Fi ≠ D2 := let ⟨_, hx, _⟩ := hFi18; hnew _ _ hx.safe hx.at'
  have nS : Se ≠ Tu ∧ Se ≠ D1 ∧ Se ≠ D2 := let ⟨_, hx, _⟩ := hSe; hnew _ _ hx.safe hx.at'
  have names_ok : ∀ (is : List Int) (x : Str), x ∈ is.map (nameAt ns) → PyData.strOk x = true := fun is x hx => by
    refine by_G fun G_ back_ => ?_
    obtain ⟨k, _, rfl⟩ := List.mem_map.mp hx
    refine back_ ?_
    clear back_ G_
    exact PL.str k
  refine wpAny_execs_cons (wpAny_mono (st_ret f S19 rfl (hFi18.stay t19) rfl (hSe.stay t19) hxl hyl rfl hTu hD1 hD2 hne ⟨Ne.symm nF.1, Ne.symm nS.1⟩ ⟨Ne.symm nF.2.1, Ne.symm nS.2.1⟩ ⟨Ne.symm nF.2.2, Ne.symm nS.2.2⟩
    (fun x hx => names_ok _ x (PL.sub1 _ _ x hx)) (fun x hx => names_ok _ x (PL.sub2 _ _ x hx))) (fun fl s20 h20 => ?_) fun _ _ q => q)
  refine by_G fun G_ back_ => ?_
  obtain ⟨rfl, r⟩ := h20
  refine back_ ?_
  clear back_ G_
  exact ⟨rfl, r⟩
end
-- LW
section
open PyProof.Rows.LCg (lst lst_snoc)
theorem lines_LW_1 : True := by
  k_with_none
  k_with "exec Assign cons ListComp" => refine park ?_
  k_with "eval ListComp" => refine park ?_
  k_with "exec If" => ((with_reducible rename Marker => mk'); clear mk'; refine park ?_)
  k_with "call ref" => (k_here; (with_reducible show wpAny _ _ (call (Value.ref 82) [Value.int _ _]) _ _ _); refine' use_name ?zqF ?zqN ?zqB rfl (Nat.le_of_ble_eq_true rfl) (Nat.le_of_ble_eq_true rfl) ?_; (case zqF => k_asm); (case zqN => k_asm); (case zqB => exact ⟨by assumption, _, _, by assumption⟩); intro h' tk' t' F' N'; (try k_sweep))
  k_with "eval Name" => (k_here; (with_reducible show wpAny _ _ (eval (Expr.Name _ _) (compEnvC _ _ _ _)) _ _ _); k_dflt (first | (refine own_C (by k_asm) (by assumption) ?_) | (refine' cell_C ?zqF ?zqc ?zqm ?zqd ?_; (case zqF => k_asm); (case zqc => rfl); (case zqm => assumption); (case zqd => assumption))))
  k_with "call ref" => (k_here; (with_reducible show wpAny _ _ (call (Value.ref 89) _) _ _ _); refine park ?_)
  trivial
noncomputable def funIn (K : Frag) (x : Str) : Option (Addr × Value) := match nsIn K mainGlobals x with
  | some (some (.ref f)) => (match K.lookup f with
    | some ⟨_, _, .func fd, _⟩ => some (f, fd.code)
    | _ => none)
  | _ => none
theorem law_fa {K : Frag} {h : Heap} {mg : Str → Option Value} {x : Str} {fa f : Addr} {cv : Value} {o : Obj} {fd : FuncData} (X : K.In h) (G : h.Ns mainGlobals mg) (e : funIn K x = some (f, cv)) (hm : mg x = some (.ref fa)) (ho : h.get? fa = some o) (hd : o.data = .func fd) : fa = f ∧ fd.code = cv := by
  unfold funIn at e
  split at e
  · rename_i f' hf
    have e1 := mg_of X G hf
    rw [hm] at e1
    cases e1
    split at e
    · rename_i hfo
      have e2 := X _ _ hfo
      rw [ho] at e2
      cases e2
      cases hd
      cases e
      exact ⟨rfl, rfl⟩
    · cases e
  · cases e
set_option maxHeartbeats 8000000 in
theorem law0 (PL : ∀ nums : List Int, PlainOK (numsOf nums) (modeN nums 0) (modeN nums 1) (nameOf (numsOf nums).sum)) : PySem.Challenge.rw_oh0023_01.Holds := Mine.hd (by
  w_strict (
    k_fill
    intro w s₀ s₁ mg mb G Y fa o pm cd doc dV kV ho hd hcd hD hmg hg args vals as hpre hlay hrd hwl hlo
    have KX := km_in_of Y
    km_tabs Y
    have X := (Ground.X G).1
    have V := (Ground.X G).2
    refine Ground.open G ?_
    intro T B D TE TW
    try (refine guard_noD D (by decide +kernel) ?_; clear D)
    km_lay T hmg ho hd cd
    have hfa := law_fa (x := Str.ofString "law") (f := 125) (cv := Value.ref 124) KX (Top.g T) (by kernel_rfl) hmg ho hd
    refine by_G fun G_ back_ => ?_
    obtain ⟨hfa1, hfa2⟩ := hfa
    refine back_ ?_
    clear back_ G_
    have hfa3 : cd = Value.ref 124 := hfa2
    clear hfa2
    subst hfa1
    subst hfa3
    clear hmg
    wrow_args hpre hlay hrd hwl hlo
    all_goals (
      first | refine callC_kw (enter_call ?_) | refine enter_call ?_
      w_top on
      refine law_post hT9 (fun _ _ => rfl) (post_true _) ?_
      w_call any ho hd hcd hD T F
      clear hd
      kn_ghosts F T
      k_drop
      skip)
    (all_goals try k_fold)
    have mk : Marker := trivial
    k_steps)
  rename_i nums _ _ _ _ _ _ _ scr scv _ hLs _ _ _ hIs _ _ _ _ _ o1 o2 o3 o4 o5 o6 o7 o8 d1 d2 d3 d4 d5 d6 d7 d8 _ X9 T9 K9 _ l9 _ ws8 _ hI8 _ _ _ _ _ _ _ _ F9 N9
  refine law_if (s₁ := s₁) (fun y => if y = Str.ofString "script" then some (.ref scr) else none) nums N9 ?_ ?_
  · k_steps
    · refine num_end (by assumption) (by assumption) (fun y => ?_) (by unfold numsOf; rw [if_pos (by assumption)]; assumption) (fun q hq => by repeat (first | exact hq | apply List.Mem.tail)) ?_
      · by_cases h : y = Str.ofString "numbers"
        · simp only [if_pos h]
        · simp only [if_neg h]; rfl
      · repeat (first | refine List.forall_mem_cons.mpr ⟨(by show @LT.lt Nat _ _ _; omega), ?_⟩ | exact List.forall_mem_nil _)
    · refine num_end (by assumption) (by assumption) (fun y => ?_) (by unfold numsOf; rw [if_neg (by assumption)]; assumption) (fun q hq => by repeat (first | exact hq | apply List.Mem.tail)) ?_
      · by_cases h : y = Str.ofString "numbers"
        · simp only [if_pos h]
        · simp only [if_neg h]; rfl
      · repeat (first | refine List.forall_mem_cons.mpr ⟨(by show @LT.lt Nat _ _ _; omega), ?_⟩ | exact List.forall_mem_nil _)
  · intro h9 tk9 D9 c9 ws9 hI9 F10 N10 hlt9
    clear F9 N9
    k_lt hlt9
    have hnl := numsOf_len nums
    k_steps
    rename_i t1 _ oa da t2 _ ob db _ _ _ h11 oc F11 N11 dc
    refine by_G fun G_ back_ => ?_
    obtain ⟨ta, da⟩ : ∃ ta, oa.data = .cell (some (.int (modeN nums 0) ta)) := ⟨_, da⟩
    obtain ⟨tb, db⟩ : ∃ tb, ob.data = .cell (some (.int (modeN nums 1) tb)) := ⟨_, db⟩
    refine back_ ?_
    clear back_ G_
    have f : LFZ w mg mb (ghostOf s₁.heap [(102, 98), (20, 16)]) s₁.heap.objs.size :=
      { B := ⟨X9, _, _, T9⟩, n98 := hideAll_none _ (.head _), n16 := hideAll_none _ (.tail _ (.head _)), c98 := by assumption, c16 := by assumption, l98 := l9.1, l16 := l9.2,
        above := cells_above (by repeat (first | refine List.forall_mem_cons.mpr ⟨(by show @LT.lt Nat _ _ _; omega), ?_⟩ | exact List.forall_mem_nil _)),
        inj := cells_inj (by repeat (first | refine List.Pairwise.cons (by repeat (first | refine List.forall_mem_cons.mpr ⟨(by show @Ne Nat _ _; omega), ?_⟩ | exact List.forall_mem_nil _)) ?_ | exact List.Pairwise.nil)) }
    have S : ∀ tk, LZ (ghostOf s₁.heap [(102, 98), (20, 16)]) s₁.heap.objs.size s₁ { s₁ with heap := h11, toks := tk } [(Str.ofString "numbers", .ref D9), (Str.ofString "script", .ref scr)] [(Str.ofString "wanted", .str (nameOf (numsOf nums).sum) t'), (Str.ofString "other", .int (modeN nums 1) tb), (Str.ofString "one", .int (modeN nums 0) ta)] := by
      intro tk
      refine ⟨fr_congr F11 (fun y => ?_), fun x c hx => ?_, ?_, .of_eq hg, rfl⟩
      · rw [← lk_cons, ← lk_cons]; rfl
      · have hm := lookup_mem hx
        clear hx
        iterate 8 (rcases List.mem_cons.mp hm with e | hm; · (obtain ⟨rfl, rfl⟩ := Prod.mk.inj e; first | exact ⟨o1, (N11 (_, o1) (by k_mem)).1, d1⟩ | exact ⟨o2, (N11 (_, o2) (by k_mem)).1, d2⟩ | exact ⟨o3, (N11 (_, o3) (by k_mem)).1, d3⟩ | exact ⟨o4, (N11 (_, o4) (by k_mem)).1, d4⟩ | exact ⟨o5, (N11 (_, o5) (by k_mem)).1, d5⟩ | exact ⟨oc, (N11 (_, oc) (by k_mem)).1, dc⟩ | exact ⟨ob, (N11 (_, ob) (by k_mem)).1, db⟩ | exact ⟨oa, (N11 (_, oa) (by k_mem)).1, da⟩))
        exact absurd hm List.not_mem_nil
      · exact ⟨⟨#[], (N11 (98, tabObj #[]) (by k_mem)).1, trivial⟩, ⟨#[], (N11 (16, tabObj #[]) (by k_mem)).1, trivial⟩⟩
    have hnum := N11 (D9, W.listOf ws9.toArray c9) (by k_mem)
    have hsafe : SafeZ s₁.heap.objs.size D9 := by
      have hb : ∀ p ∈ lawCs s₁.heap.objs.size, @LT.lt Nat _ p.2 D9 := by repeat (first | refine List.forall_mem_cons.mpr ⟨(by show @LT.lt Nat _ _ _; omega), ?_⟩ | exact List.forall_mem_nil _)
      refine ⟨hnum.2.1, fun x c hc z => ?_, (show @Ne Nat D9 98 by omega), (show @Ne Nat D9 16 by omega)⟩
      have := hb _ (lookup_mem hc)
      rw [z] at this
      exact Nat.lt_irrefl _ this
    refine wpAny_mono (st_files (o := modeN nums 0) (q := modeN nums 1) (ns := numsOf nums) f (S _) rfl ⟨ws9, c9, ⟨hsafe, hnum.2.2, hnum.1⟩, hI9⟩ rfl rfl (Nat.le_trans hnl.2 (by decide))) (fun fl s' h => ?_) (fun _ _ q => False.elim q)
    refine by_G fun G_ back_ => ?_
    obtain ⟨rfl, Fa, S', st, hF⟩ := h
    refine back_ ?_
    clear back_ G_
    refine wpAny_mono (law_rest (wd := nameOf (numsOf nums).sum) f S' hF rfl rfl rfl (nameOf_len _) (Nat.le_trans hnl.2 (by decide)) (PL nums)) (fun fl s' h => ?_) (fun _ _ q => False.elim q)
    refine by_G fun G_ back_ => ?_
    obtain ⟨rfl, r⟩ := h
    refine back_ ?_
    clear back_ G_
    exact ⟨rfl, r⟩)
end
-- PL1
section
/-! the differences -/
theorem any_count (act : List Str) (x : Str) : (act.any (· == x)) = true ↔ 0 < act.count x := by
  rw [List.count_pos_iff, List.any_eq_true]
  constructor
  · rintro ⟨y, hy, e⟩; rw [← eq_of_beq e]; exact hy
  · intro h; exact ⟨x, h, by simp⟩
theorem count_snoc (pre : List Str) (x z : Str) : (pre ++ [x]).count z = pre.count z + (if x = z then 1 else 0) := by
  rw [List.count_append, List.count_singleton]
  by_cases h : x = z <;> simp [h]
theorem over_missing (ys : List Str) : ∀ (r pre act : List Str), (∀ z, act.count z = ys.count z - pre.count z) → overGo ys pre r = (diffGo r act).1
  | [], pre, act, h => rfl
  | x :: r, pre, act, h => by
    rw [overGo, diffGo]
    by_cases hin : (act.any (· == x)) = true
    · rw [if_pos hin]
      have h0 := (any_count act x).mp hin
      rw [if_neg (by rw [h] at h0; omega), List.nil_append]
      refine over_missing ys r (pre ++ [x]) (act.erase x) fun z => ?_
      rw [count_snoc]
      by_cases e : x = z
      · subst e; rw [List.count_erase_self, h, if_pos rfl]; omega
      · rw [List.count_erase_of_ne (Ne.symm e), h, if_neg e]; rfl
    · rw [if_neg hin]
      have h0 : act.count x = 0 := Nat.eq_zero_of_not_pos fun z => hin ((any_count act x).mpr z)
      have hx := h x
      rw [if_pos (by omega), List.singleton_append]
      refine congrArg (x :: ·) (over_missing ys r (pre ++ [x]) act fun z => ?_)
      rw [count_snoc]
      by_cases e : x = z
      · subst e; rw [if_pos rfl]; omega
      · rw [if_neg e, h]; rfl
theorem over_congr {xb xb' : List Str} : ∀ (t pre pre' : List Str), (∀ z, xb.count z + pre'.count z = xb'.count z + pre.count z) → overGo xb pre t = overGo xb' pre' t
  | [], _, _, _ => rfl
  | y :: t, pre, pre', h => by
    rw [overGo, overGo, over_congr (xb := xb) (xb' := xb') t (pre ++ [y]) (pre' ++ [y]) (fun z => by rw [count_snoc, count_snoc]; have := h z; omega)]
    have hy := h y
    by_cases e : xb.count y < pre.count y + 1
    · rw [if_pos e, if_pos (by omega)]
    · rw [if_neg e, if_neg (by omega)]
theorem over_erase {x : Str} {r : List Str} : ∀ (act pre : List Str), pre.count x = 0 → overGo (x :: r) pre act = overGo r pre (act.erase x)
  | [], _, _ => rfl
  | y :: t, pre, h => by
    rw [overGo]
    by_cases e : y = x
    · subst e
      rw [List.erase_cons_head, List.count_cons_self, if_neg (by omega), List.nil_append]
      exact over_congr t _ _ fun z => by rw [count_snoc, List.count_cons]; by_cases e : y = z <;> simp [e] <;> omega
    · rw [List.erase_cons_tail (by simpa using e), overGo, over_erase t (pre ++ [y]) (by rw [count_snoc, if_neg e, h]), List.count_cons_of_ne (Ne.symm e)]
theorem over_nil : ∀ (t pre : List Str), overGo [] pre t = t
  | [], _ => rfl
  | y :: t, pre => by rw [overGo, if_pos (by simp), over_nil t]; rfl
theorem diff_rest : ∀ (r act : List Str), (diffGo r act).2 = overGo r [] act
  | [], act => (over_nil act []).symm
  | x :: r, act => by
    rw [diffGo, over_erase act [] (by simp)]
    by_cases hin : (act.any (· == x)) = true
    · rw [if_pos hin]; exact diff_rest r _
    · rw [if_neg hin]
      have h0 : act.count x = 0 := Nat.eq_zero_of_not_pos fun z => hin ((any_count act x).mpr z)
      rw [List.erase_of_not_mem (List.count_eq_zero.mp h0)]
      exact diff_rest r act
theorem diff1 (xs ys : List Str) : overGo ys [] xs.reverse = (diffGo xs.reverse ys).1 := over_missing ys xs.reverse [] ys fun z => by simp
theorem diff2 (xs ys : List Str) : overGo xs [] ys = (diffGo xs.reverse ys).2 := by
  rw [diff_rest]
  exact over_congr ys [] [] fun z => by simp
theorem diff_sub1 : ∀ (r act : List Str), ∀ x ∈ (diffGo r act).1, x ∈ r
  | [], _, x, h => by cases h
  | y :: r, act, x, h => by
    rw [diffGo] at h
    split at h
    · exact .tail _ (diff_sub1 r _ x h)
    · rcases List.mem_cons.mp h with rfl | h
      · exact .head _
      · exact .tail _ (diff_sub1 r _ x h)
theorem diff_sub2 : ∀ (r act : List Str), ∀ x ∈ (diffGo r act).2, x ∈ act
  | [], _, x, h => h
  | y :: r, act, x, h => by
    rw [diffGo] at h
    split at h
    · exact List.mem_of_mem_erase (diff_sub2 r _ x h)
    · exact diff_sub2 r _ x h
end
-- PL2
section
/-! filemode's signs -/
noncomputable def kc (K : Nat) : Nat := if K = 10 then 108 else if K = 12 then 115 else if K = 8 then 45 else if K = 6 then 98 else if K = 4 then 100 else if K = 2 then 99 else if K = 1 then 112 else 63
noncomputable def t1 (c : Nat) (b : Bool) : Nat := if b then c else 45
noncomputable def t3 (c d e : Nat) (hi lo : Bool) : Nat := if (hi && lo) then c else if hi then d else if lo then e else 45
noncomputable def fmB (K : Nat) (b : Nat → Bool) : Str := ⟨#[kc K, t1 114 (b 8), t1 119 (b 7), t3 115 83 120 (b 11) (b 6), t1 114 (b 5), t1 119 (b 4), t3 115 83 120 (b 10) (b 3), t1 114 (b 2), t1 119 (b 1), t3 116 84 120 (b 9) (b 0)]⟩
theorem and_pow (n j : Nat) : (n &&& 2 ^ j = 2 ^ j) ↔ n.testBit j = true := by
  constructor
  · intro h
    have := congrArg (fun x => Nat.testBit x j) h
    simpa [Nat.testBit_and, Nat.testBit_two_pow] using this
  · intro h
    apply Nat.eq_of_testBit_eq
    intro i
    rw [Nat.testBit_and, Nat.testBit_two_pow]
    by_cases e : j = i
    · subst e; simp [h]
    · simp [e]
theorem and_pow2 (n a b : Nat) : (n &&& (2 ^ a ||| 2 ^ b) = 2 ^ a ||| 2 ^ b) ↔ (n.testBit a = true ∧ n.testBit b = true) := by
  constructor
  · intro h
    have h1 := congrArg (fun x => Nat.testBit x a) h
    have h2 := congrArg (fun x => Nat.testBit x b) h
    simp [Nat.testBit_and, Nat.testBit_or, Nat.testBit_two_pow] at h1 h2
    exact ⟨h1, h2⟩
  · rintro ⟨h1, h2⟩
    apply Nat.eq_of_testBit_eq
    intro i
    rw [Nat.testBit_and, Nat.testBit_or, Nat.testBit_two_pow, Nat.testBit_two_pow]
    by_cases e : a = i
    · subst e; simp [h1]
    · by_cases e' : b = i
      · subst e'; simp [h2]
      · simp [e, e']
theorem and_hi {n : Nat} (h : n < 65536) : n &&& 61440 = n / 4096 * 4096 := by
  apply Nat.eq_of_testBit_eq
  intro i
  rw [Nat.testBit_and, show (61440 : Nat) = (2 ^ 4 - 1) <<< 12 from by decide, Nat.testBit_shiftLeft, Nat.testBit_two_pow_sub_one, show n / 4096 * 4096 = (n >>> 12) <<< 12 from by rw [Nat.shiftLeft_eq, Nat.shiftRight_eq_div_pow], Nat.testBit_shiftLeft, Nat.testBit_shiftRight]
  by_cases h1 : i ≥ 12
  · by_cases h2 : i < 16
    · have h3 : i - 12 < 4 := by omega
      have h4 : 12 + (i - 12) = i := by omega
      simp [h1, h3, h4]
    · have h3 : ¬ i - 12 < 4 := by omega
      have h4 : 12 + (i - 12) = i := by omega
      have h5 : n.testBit i = false := Nat.testBit_lt_two_pow (Nat.lt_of_lt_of_le h (Nat.le_trans (by decide : 65536 ≤ 2 ^ 16) (Nat.pow_le_pow_right (by decide) (by omega))))
      simp [h1, h3, h4, h5]
  · simp [h1]
theorem bitAnd_nat {m : Int} (h : 0 ≤ m) (b : Nat) : Builtin.bitAnd m (b : Int) = ((m.toNat &&& b : Nat) : Int) := by
  unfold Builtin.bitAnd
  rw [decide_eq_true h, decide_eq_true (Int.natCast_nonneg b)]
  rfl
theorem hit1 {m : Int} (h : 0 ≤ m) (i j : Nat) (hi : i ≠ 0) (c : Str) : hitOf i m (((2 ^ j : Nat) : Int), c) = m.toNat.testBit j := by
  unfold hitOf
  rw [if_neg hi, bitAnd_nat h]
  rw [Bool.eq_iff_iff, decide_eq_true_iff, ← and_pow]
  exact Int.ofNat_inj
theorem hit2 {m : Int} (h : 0 ≤ m) (i a b : Nat) (hi : i ≠ 0) (c : Str) : hitOf i m (((2 ^ a ||| 2 ^ b : Nat) : Int), c) = (m.toNat.testBit a && m.toNat.testBit b) := by
  unfold hitOf
  rw [if_neg hi, bitAnd_nat h]
  rw [Bool.eq_iff_iff, decide_eq_true_iff, Bool.and_eq_true, ← and_pow2]
  exact Int.ofNat_inj
theorem pick1 {m : Int} (h : 0 ≤ m) (i j : Nat) (hi : i ≠ 0) (c : Str) (cc : Nat) (hc : c = ⟨#[cc]⟩) : pickOf i m [(((2 ^ j : Nat) : Int), c)] = ⟨#[t1 cc (m.toNat.testBit j)]⟩ := by
  unfold pickOf dfltOf t1
  rw [if_neg hi, List.find?_cons, hit1 h i j hi c]
  cases m.toNat.testBit j
  · exact (by decide : Str.ofString "-" = ⟨#[45]⟩)
  · exact hc
theorem pick3 {m : Int} (h : 0 ≤ m) (i a b : Nat) (hi : i ≠ 0) (c d e : Str) (cc dd ee : Nat) (hc : c = ⟨#[cc]⟩) (hd : d = ⟨#[dd]⟩) (he : e = ⟨#[ee]⟩) :
    pickOf i m [(((2 ^ a ||| 2 ^ b : Nat) : Int), c), (((2 ^ a : Nat) : Int), d), (((2 ^ b : Nat) : Int), e)] = ⟨#[t3 cc dd ee (m.toNat.testBit a) (m.toNat.testBit b)]⟩ := by
  unfold pickOf dfltOf t3
  rw [if_neg hi, List.find?_cons, hit2 h i a b hi c, List.find?_cons, hit1 h i a hi d, List.find?_cons, hit1 h i b hi e]
  cases m.toNat.testBit a <;> cases m.toNat.testBit b
  · exact (by decide : Str.ofString "-" = ⟨#[45]⟩)
  · exact he
  · exact hd
  · exact hc
noncomputable def row0 : List (Int × Str) := [(40960, Str.ofString "l"), (49152, Str.ofString "s"), (32768, Str.ofString "-"), (24576, Str.ofString "b"), (16384, Str.ofString "d"), (8192, Str.ofString "c"), (4096, Str.ofString "p")]
theorem kind_all : ∀ K : Fin 16, ((row0.find? fun p => decide (((K.val * 4096 : Nat) : Int) = p.1)).map (·.2)).getD (Str.ofString "?") = ⟨#[kc K.val]⟩ := by decide +kernel
theorem pick0 {m : Int} (h : 0 ≤ m) (h' : m < 65536) : pickOf 0 m row0 = ⟨#[kc (m.toNat / 4096)]⟩ := by
  have hn : m.toNat < 65536 := by omega
  have := kind_all ⟨m.toNat / 4096, by omega⟩
  rw [← this]
  unfold pickOf dfltOf
  rw [if_pos rfl]
  have e : (fun p : Int × Str => decide (((m.toNat / 4096 * 4096 : Nat) : Int) = p.1)) = hitOf 0 m := by
    funext p
    unfold hitOf
    rw [if_pos rfl, show (61440 : Int) = ((61440 : Nat) : Int) from rfl, bitAnd_nat h, and_hi hn]
  rw [e]
theorem fm_is {m : Int} (h : 0 ≤ m) (h' : m < 65536) : fm m = fmB (m.toNat / 4096) m.toNat.testBit := by
  have e : charsOf m 0 fmRows = [⟨#[kc (m.toNat / 4096)]⟩, ⟨#[t1 114 (m.toNat.testBit 8)]⟩, ⟨#[t1 119 (m.toNat.testBit 7)]⟩, ⟨#[t3 115 83 120 (m.toNat.testBit 11) (m.toNat.testBit 6)]⟩, ⟨#[t1 114 (m.toNat.testBit 5)]⟩, ⟨#[t1 119 (m.toNat.testBit 4)]⟩,
      ⟨#[t3 115 83 120 (m.toNat.testBit 10) (m.toNat.testBit 3)]⟩, ⟨#[t1 114 (m.toNat.testBit 2)]⟩, ⟨#[t1 119 (m.toNat.testBit 1)]⟩, ⟨#[t3 116 84 120 (m.toNat.testBit 9) (m.toNat.testBit 0)]⟩] := by
    rw [← pick0 h h', ← pick1 h 1 8 (by decide) (Str.ofString "r") 114 (by decide), ← pick1 h 2 7 (by decide) (Str.ofString "w") 119 (by decide), ← pick3 h 3 11 6 (by decide) (Str.ofString "s") (Str.ofString "S") (Str.ofString "x") 115 83 120 (by decide) (by decide) (by decide),
      ← pick1 h 4 5 (by decide) (Str.ofString "r") 114 (by decide), ← pick1 h 5 4 (by decide) (Str.ofString "w") 119 (by decide), ← pick3 h 6 10 3 (by decide) (Str.ofString "s") (Str.ofString "S") (Str.ofString "x") 115 83 120 (by decide) (by decide) (by decide),
      ← pick1 h 7 2 (by decide) (Str.ofString "r") 114 (by decide), ← pick1 h 8 1 (by decide) (Str.ofString "w") 119 (by decide), ← pick3 h 9 9 0 (by decide) (Str.ofString "t") (Str.ofString "T") (Str.ofString "x") 116 84 120 (by decide) (by decide) (by decide)]
    rfl
  unfold fm
  rw [e]
  rfl
end
-- PL3
section
theorem t1_inj {c : Nat} (hc : c ≠ 45) {b b' : Bool} (h : t1 c b = t1 c b') : b = b' := by
  unfold t1 at h
  cases b <;> cases b' <;> simp_all
theorem t3_s {b c b' c' : Bool} (h : t3 115 83 120 b c = t3 115 83 120 b' c') : b = b' ∧ c = c' := by
  revert b c b' c'; decide
theorem t3_t {b c b' c' : Bool} (h : t3 116 84 120 b c = t3 116 84 120 b' c') : b = b' ∧ c = c' := by
  revert b c b' c'; decide
theorem fmB_inj {K K' : Nat} {b b' : Nat → Bool} (h : fmB K b = fmB K' b') : kc K = kc K' ∧ ∀ i, i < 12 → b i = b' i := by
  unfold fmB at h
  simp only [Str.mk.injEq, Array.mk.injEq, List.cons.injEq, and_true] at h
  obtain ⟨h0, h8, h7, h3, h5, h4, h6, h2, h1, h9⟩ := h
  have a := t3_s h3
  have c := t3_s h6
  have d := t3_t h9
  have e8 := t1_inj (by decide) h8
  have e7 := t1_inj (by decide) h7
  have e5 := t1_inj (by decide) h5
  have e4 := t1_inj (by decide) h4
  have e2 := t1_inj (by decide) h2
  have e1 := t1_inj (by decide) h1
  refine ⟨h0, fun i hi => ?_⟩
  have : i = 0 ∨ i = 1 ∨ i = 2 ∨ i = 3 ∨ i = 4 ∨ i = 5 ∨ i = 6 ∨ i = 7 ∨ i = 8 ∨ i = 9 ∨ i = 10 ∨ i = 11 := by omega
  rcases this with rfl | rfl | rfl | rfl | rfl | rfl | rfl | rfl | rfl | rfl | rfl | rfl
  · exact d.2
  · exact e1
  · exact e2
  · exact c.2
  · exact e4
  · exact e5
  · exact a.2
  · exact e7
  · exact e8
  · exact d.1
  · exact c.1
  · exact a.1
theorem kinds : ∀ K K' : Fin 16, (kc K.val = kc K'.val) ↔ kindOf (K.val : Nat) = kindOf (K'.val : Nat) := by decide +kernel
theorem kindOf_range : ∀ K : Fin 16, 0 ≤ kindOf (K.val : Nat) ∧ kindOf (K.val : Nat) < 16 := by decide +kernel
theorem rights_is {m : Int} (h : 0 ≤ m) : rightsOf (Str.ofString "rights") m = some (kindOf ((m.toNat / 4096 : Nat) : Int) * 4096 + ((m.toNat % 4096 : Nat) : Int)) := by
  have e1 : m.fdiv 4096 = ((m.toNat / 4096 : Nat) : Int) := by rw [Int.fdiv_eq_ediv_of_nonneg _ (by decide)]; omega
  have e2 : m.fmod 4096 = ((m.toNat % 4096 : Nat) : Int) := by rw [Int.fmod_eq_emod_of_nonneg _ (by decide)]; omega
  unfold rightsOf
  rw [if_neg (by decide), e1, e2]
theorem fm_iff {m m' : Int} (h : 0 ≤ m) (h' : m < 65536) (g : 0 ≤ m') (g' : m' < 65536) : fm m = fm m' ↔ rightsOf (Str.ofString "rights") m = rightsOf (Str.ofString "rights") m' := by
  rw [fm_is h h', fm_is g g', rights_is h, rights_is g, Option.some.injEq]
  have k1 := kinds ⟨m.toNat / 4096, by omega⟩ ⟨m'.toNat / 4096, by omega⟩
  have r1 := kindOf_range ⟨m.toNat / 4096, by omega⟩
  have r2 := kindOf_range ⟨m'.toNat / 4096, by omega⟩
  dsimp only at k1 r1 r2
  constructor
  · intro e
    obtain ⟨e1, e2⟩ := fmB_inj e
    rw [k1.mp e1]
    have : m.toNat % 4096 = m'.toNat % 4096 := by
      apply Nat.eq_of_testBit_eq
      intro i
      rw [show (4096 : Nat) = 2 ^ 12 from rfl, Nat.testBit_mod_two_pow, Nat.testBit_mod_two_pow]
      by_cases hi : i < 12
      · rw [e2 i hi]
      · simp [hi]
    rw [this]
  · intro e
    have hk : kindOf ((m.toNat / 4096 : Nat) : Int) = kindOf ((m'.toNat / 4096 : Nat) : Int) := by omega
    have hr : m.toNat % 4096 = m'.toNat % 4096 := by omega
    have hb : ∀ i, i < 12 → m.toNat.testBit i = m'.toNat.testBit i := fun i hi => by
      have := congrArg (fun x => Nat.testBit x i) hr
      simp only [show (4096 : Nat) = 2 ^ 12 from rfl, Nat.testBit_mod_two_pow] at this
      simpa [hi] using this
    unfold fmB
    rw [k1.mpr hk, hb 8 (by decide), hb 7 (by decide), hb 11 (by decide), hb 6 (by decide), hb 5 (by decide), hb 4 (by decide), hb 10 (by decide), hb 3 (by decide), hb 2 (by decide), hb 1 (by decide), hb 9 (by decide), hb 0 (by decide)]
theorem t1_ne {c : Nat} {b : Bool} (h : c ≠ 125) : t1 c b ≠ 125 := by unfold t1; split <;> first | exact h | decide
theorem t3_ne {b c : Bool} : t3 115 83 120 b c ≠ 125 ∧ t3 116 84 120 b c ≠ 125 := by revert b c; decide
theorem kc_ne (K : Nat) : kc K ≠ 125 ∧ kc K ≠ 42 := by unfold kc; repeat' split <;> first | decide | skip
/-- ten signs, none a brace -/
theorem fm_codes {m : Int} (h : 0 ≤ m) (h' : m < 65536) : ∃ c0 c1 c2 c3 c4 c5 c6 c7 c8 c9, fm m = ⟨#[c0, c1, c2, c3, c4, c5, c6, c7, c8, c9]⟩ ∧ c0 ≠ 42 ∧ c7 ≠ 125 ∧ c8 ≠ 125 ∧ c9 ≠ 125 := by
  rw [fm_is h h']
  exact ⟨_, _, _, _, _, _, _, _, _, _, rfl, (kc_ne _).2, t1_ne (by decide), t1_ne (by decide), t3_ne.2⟩
/-! slices by length -/
theorem sl1_1 (a0 : Nat) : Txt.slice ⟨#[a0]⟩ (some (-1)) none = ⟨#[a0]⟩ := by kernel_rfl
theorem sl1_2 (a0 : Nat) : Txt.slice ⟨#[a0]⟩ (some (-2)) none = ⟨#[a0]⟩ := by kernel_rfl
theorem sl1_3 (a0 : Nat) : Txt.slice ⟨#[a0]⟩ (some (-3)) none = ⟨#[a0]⟩ := by kernel_rfl
theorem sl2_1 (a0 a1 : Nat) : Txt.slice ⟨#[a0, a1]⟩ (some (-1)) none = ⟨#[a1]⟩ := by kernel_rfl
theorem sl2_2 (a0 a1 : Nat) : Txt.slice ⟨#[a0, a1]⟩ (some (-2)) none = ⟨#[a0, a1]⟩ := by kernel_rfl
theorem sl2_3 (a0 a1 : Nat) : Txt.slice ⟨#[a0, a1]⟩ (some (-3)) none = ⟨#[a0, a1]⟩ := by kernel_rfl
theorem sl3_1 (a0 a1 a2 : Nat) : Txt.slice ⟨#[a0, a1, a2]⟩ (some (-1)) none = ⟨#[a2]⟩ := by kernel_rfl
theorem sl3_2 (a0 a1 a2 : Nat) : Txt.slice ⟨#[a0, a1, a2]⟩ (some (-2)) none = ⟨#[a1, a2]⟩ := by kernel_rfl
theorem sl3_3 (a0 a1 a2 : Nat) : Txt.slice ⟨#[a0, a1, a2]⟩ (some (-3)) none = ⟨#[a0, a1, a2]⟩ := by kernel_rfl
theorem sl4_1 (a0 a1 a2 a3 : Nat) : Txt.slice ⟨#[a0, a1, a2, a3]⟩ (some (-1)) none = ⟨#[a3]⟩ := by kernel_rfl
theorem sl4_2 (a0 a1 a2 a3 : Nat) : Txt.slice ⟨#[a0, a1, a2, a3]⟩ (some (-2)) none = ⟨#[a2, a3]⟩ := by kernel_rfl
theorem sl4_3 (a0 a1 a2 a3 : Nat) : Txt.slice ⟨#[a0, a1, a2, a3]⟩ (some (-3)) none = ⟨#[a1, a2, a3]⟩ := by kernel_rfl
theorem sl11_1 (a0 a1 a2 a3 a4 a5 a6 a7 a8 a9 a10 : Nat) : Txt.slice ⟨#[a0, a1, a2, a3, a4, a5, a6, a7, a8, a9, a10]⟩ (some (-1)) none = ⟨#[a10]⟩ := by kernel_rfl
theorem sl11_2 (a0 a1 a2 a3 a4 a5 a6 a7 a8 a9 a10 : Nat) : Txt.slice ⟨#[a0, a1, a2, a3, a4, a5, a6, a7, a8, a9, a10]⟩ (some (-2)) none = ⟨#[a9, a10]⟩ := by kernel_rfl
theorem sl11_3 (a0 a1 a2 a3 a4 a5 a6 a7 a8 a9 a10 : Nat) : Txt.slice ⟨#[a0, a1, a2, a3, a4, a5, a6, a7, a8, a9, a10]⟩ (some (-3)) none = ⟨#[a8, a9, a10]⟩ := by kernel_rfl
theorem sl12_1 (a0 a1 a2 a3 a4 a5 a6 a7 a8 a9 a10 a11 : Nat) : Txt.slice ⟨#[a0, a1, a2, a3, a4, a5, a6, a7, a8, a9, a10, a11]⟩ (some (-1)) none = ⟨#[a11]⟩ := by kernel_rfl
theorem sl12_2 (a0 a1 a2 a3 a4 a5 a6 a7 a8 a9 a10 a11 : Nat) : Txt.slice ⟨#[a0, a1, a2, a3, a4, a5, a6, a7, a8, a9, a10, a11]⟩ (some (-2)) none = ⟨#[a10, a11]⟩ := by kernel_rfl
theorem sl12_3 (a0 a1 a2 a3 a4 a5 a6 a7 a8 a9 a10 a11 : Nat) : Txt.slice ⟨#[a0, a1, a2, a3, a4, a5, a6, a7, a8, a9, a10, a11]⟩ (some (-3)) none = ⟨#[a9, a10, a11]⟩ := by kernel_rfl
theorem sl13_1 (a0 a1 a2 a3 a4 a5 a6 a7 a8 a9 a10 a11 a12 : Nat) : Txt.slice ⟨#[a0, a1, a2, a3, a4, a5, a6, a7, a8, a9, a10, a11, a12]⟩ (some (-1)) none = ⟨#[a12]⟩ := by kernel_rfl
theorem sl13_2 (a0 a1 a2 a3 a4 a5 a6 a7 a8 a9 a10 a11 a12 : Nat) : Txt.slice ⟨#[a0, a1, a2, a3, a4, a5, a6, a7, a8, a9, a10, a11, a12]⟩ (some (-2)) none = ⟨#[a11, a12]⟩ := by kernel_rfl
theorem sl13_3 (a0 a1 a2 a3 a4 a5 a6 a7 a8 a9 a10 a11 a12 : Nat) : Txt.slice ⟨#[a0, a1, a2, a3, a4, a5, a6, a7, a8, a9, a10, a11, a12]⟩ (some (-3)) none = ⟨#[a10, a11, a12]⟩ := by kernel_rfl
theorem sl14_1 (a0 a1 a2 a3 a4 a5 a6 a7 a8 a9 a10 a11 a12 a13 : Nat) : Txt.slice ⟨#[a0, a1, a2, a3, a4, a5, a6, a7, a8, a9, a10, a11, a12, a13]⟩ (some (-1)) none = ⟨#[a13]⟩ := by kernel_rfl
theorem sl14_2 (a0 a1 a2 a3 a4 a5 a6 a7 a8 a9 a10 a11 a12 a13 : Nat) : Txt.slice ⟨#[a0, a1, a2, a3, a4, a5, a6, a7, a8, a9, a10, a11, a12, a13]⟩ (some (-2)) none = ⟨#[a12, a13]⟩ := by kernel_rfl
theorem sl14_3 (a0 a1 a2 a3 a4 a5 a6 a7 a8 a9 a10 a11 a12 a13 : Nat) : Txt.slice ⟨#[a0, a1, a2, a3, a4, a5, a6, a7, a8, a9, a10, a11, a12, a13]⟩ (some (-3)) none = ⟨#[a11, a12, a13]⟩ := by kernel_rfl
theorem sp1 (a0 : Nat) : Txt.slice ⟨#[a0]⟩ none (some 12) = ⟨#[a0]⟩ := by kernel_rfl
theorem sp2 (a0 a1 : Nat) : Txt.slice ⟨#[a0, a1]⟩ none (some 12) = ⟨#[a0, a1]⟩ := by kernel_rfl
theorem sp3 (a0 a1 a2 : Nat) : Txt.slice ⟨#[a0, a1, a2]⟩ none (some 12) = ⟨#[a0, a1, a2]⟩ := by kernel_rfl
theorem sp4 (a0 a1 a2 a3 : Nat) : Txt.slice ⟨#[a0, a1, a2, a3]⟩ none (some 12) = ⟨#[a0, a1, a2, a3]⟩ := by kernel_rfl
theorem sp11 (a0 a1 a2 a3 a4 a5 a6 a7 a8 a9 a10 : Nat) : Txt.slice ⟨#[a0, a1, a2, a3, a4, a5, a6, a7, a8, a9, a10]⟩ none (some 12) = ⟨#[a0, a1, a2, a3, a4, a5, a6, a7, a8, a9, a10]⟩ := by kernel_rfl
theorem sp12 (a0 a1 a2 a3 a4 a5 a6 a7 a8 a9 a10 a11 : Nat) : Txt.slice ⟨#[a0, a1, a2, a3, a4, a5, a6, a7, a8, a9, a10, a11]⟩ none (some 12) = ⟨#[a0, a1, a2, a3, a4, a5, a6, a7, a8, a9, a10, a11]⟩ := by kernel_rfl
theorem sp13 (a0 a1 a2 a3 a4 a5 a6 a7 a8 a9 a10 a11 a12 : Nat) : Txt.slice ⟨#[a0, a1, a2, a3, a4, a5, a6, a7, a8, a9, a10, a11, a12]⟩ none (some 12) = ⟨#[a0, a1, a2, a3, a4, a5, a6, a7, a8, a9, a10, a11]⟩ := by kernel_rfl
theorem sp14 (a0 a1 a2 a3 a4 a5 a6 a7 a8 a9 a10 a11 a12 a13 : Nat) : Txt.slice ⟨#[a0, a1, a2, a3, a4, a5, a6, a7, a8, a9, a10, a11, a12, a13]⟩ none (some 12) = ⟨#[a0, a1, a2, a3, a4, a5, a6, a7, a8, a9, a10, a11]⟩ := by kernel_rfl
end
-- PL4
section
noncomputable def Five (n : Str) : Prop := n = ⟨#[97]⟩ ∨ n = ⟨#[98]⟩ ∨ n = ⟨#[97, 98]⟩ ∨ n = ⟨#[98, 97]⟩ ∨ n = ⟨#[]⟩
noncomputable def Four (n : Str) : Prop := n = ⟨#[97]⟩ ∨ n = ⟨#[98]⟩ ∨ n = ⟨#[97, 98]⟩ ∨ n = ⟨#[98, 97]⟩
theorem name_five (y : Int) : Five (nameOf y) := by
  unfold nameOf Five
  split
  · exact .inl (by decide)
  · split
    · exact .inr (.inl (by decide))
    · split
      · exact .inr (.inr (.inl (by decide)))
      · split
        · exact .inr (.inr (.inr (.inl (by decide))))
        · exact .inr (.inr (.inr (.inr (by decide))))
theorem Four.five {n : Str} (h : Four n) : Five n := by
  rcases h with h | h | h | h
  · exact .inl h
  · exact .inr (.inl h)
  · exact .inr (.inr (.inl h))
  · exact .inr (.inr (.inr (.inl h)))
theorem nm_five (x : Int) : Five (nmOf x) := by
  unfold nmOf
  split
  · split
    · exact .inl (by decide)
    · exact name_five _
  · exact name_five _
theorem nm_four {x : Int} (h : shapeOf x = Str.ofString "alone") : Four (nmOf x) := by
  have hl := alone_ne (x := x) (by rw [h]; decide)
  rcases nm_five x with h | h | h | h | h
  · exact .inl h
  · exact .inr (.inl h)
  · exact .inr (.inr (.inl h))
  · exact .inr (.inr (.inr h))
  · rw [h] at hl; exact absurd rfl hl
theorem shape_five (x : Int) : shapeOf x = Str.ofString "rights" ∨ shapeOf x = Str.ofString "alone" ∨ shapeOf x = Str.ofString "number" ∨ shapeOf x = Str.ofString "open" ∨ shapeOf x = Str.ofString "empty" := by
  unfold shapeOf
  split
  · exact .inl rfl
  · split
    · exact .inr (.inl rfl)
    · split
      · exact .inr (.inr (.inl rfl))
      · split
        · exact .inr (.inr (.inr (.inl rfl)))
        · exact .inr (.inr (.inr (.inr rfl)))
theorem sb1 : Str.ofString "{" = ⟨#[123]⟩ := by decide
theorem sb2 : Str.ofString "}" = ⟨#[125]⟩ := by decide
theorem sb3 : Str.ofString "{}" = ⟨#[123, 125]⟩ := by decide
section
variable (c0 c1 c2 c3 c4 c5 c6 c7 c8 c9 : Nat)
theorem tstR (h0 : c0 ≠ 42) : tstOf ⟨#[123, c0, c1, c2, c3, c4, c5, c6, c7, c8, c9, 125, 42]⟩ = strTst fun x => Txt.slice x none (some 12) == ⟨#[123, c0, c1, c2, c3, c4, c5, c6, c7, c8, c9, 125]⟩ := by
  have h1 : ((⟨#[123, c0, c1, c2, c3, c4, c5, c6, c7, c8, c9, 125, 42]⟩ : Str) == Str.ofString "{*}*") = false := by kernel_rfl
  have h2 : ((⟨#[123, c0, c1, c2, c3, c4, c5, c6, c7, c8, c9, 125, 42]⟩ : Str) == Str.ofString "{}*") = false := by kernel_rfl
  have h3 : Txt.slice (⟨#[123, c0, c1, c2, c3, c4, c5, c6, c7, c8, c9, 125, 42]⟩ : Str) none (some 3) = ⟨#[123, c0, c1]⟩ := by kernel_rfl
  have h4 : Txt.slice (⟨#[123, c0, c1, c2, c3, c4, c5, c6, c7, c8, c9, 125, 42]⟩ : Str) none (some (-1)) = ⟨#[123, c0, c1, c2, c3, c4, c5, c6, c7, c8, c9, 125]⟩ := by kernel_rfl
  have h5 : ¬ ((⟨#[123, c0, c1]⟩ : Str) == Str.ofString "{*}") = true := by
    rw [show Str.ofString "{*}" = ⟨#[123, 42, 125]⟩ from by decide]
    simp [h0]
  unfold tstOf
  rw [h1, h2, h3, if_neg (by decide), if_neg (by decide), if_neg h5, h4]
  rfl
theorem patR_is (m : Int) (e : fm m = ⟨#[c0, c1, c2, c3, c4, c5, c6, c7, c8, c9]⟩) : patR m = ⟨#[123, c0, c1, c2, c3, c4, c5, c6, c7, c8, c9, 125, 42]⟩ := by
  unfold patR
  rw [e]
  rfl
theorem okR : OkPat ⟨#[123, c0, c1, c2, c3, c4, c5, c6, c7, c8, c9, 125, 42]⟩ := by
  refine ⟨Nat.le_of_ble_eq_true rfl, .inr (.inr (.inr ?_))⟩
  rw [show Txt.slice (⟨#[123, c0, c1, c2, c3, c4, c5, c6, c7, c8, c9, 125, 42]⟩ : Str) (some (-2)) none = ⟨#[125, 42]⟩ from by kernel_rfl]
  decide
end
theorem tstN_a : tstOf (patN ⟨#[97]⟩) = strTst fun x => x == ⟨#[97]⟩ || Txt.slice x (some (-2)) none == ⟨#[125, 97]⟩ := by kernel_rfl
theorem tstN_b : tstOf (patN ⟨#[98]⟩) = strTst fun x => x == ⟨#[98]⟩ || Txt.slice x (some (-2)) none == ⟨#[125, 98]⟩ := by kernel_rfl
theorem tstN_ab : tstOf (patN ⟨#[97, 98]⟩) = strTst fun x => x == ⟨#[97, 98]⟩ || Txt.slice x (some (-3)) none == ⟨#[125, 97, 98]⟩ := by kernel_rfl
theorem tstN_ba : tstOf (patN ⟨#[98, 97]⟩) = strTst fun x => x == ⟨#[98, 97]⟩ || Txt.slice x (some (-3)) none == ⟨#[125, 98, 97]⟩ := by kernel_rfl
theorem tstN_n : tstOf (patN ⟨#[]⟩) = strTst fun x => x == ⟨#[]⟩ || Txt.slice x (some (-1)) none == ⟨#[125]⟩ := by kernel_rfl
theorem tstA : tstOf (Str.ofString "{}*") = strTst fun x => Txt.item x 0 != ⟨#[123]⟩ := by kernel_rfl
theorem tstT : tstOf (Str.ofString "{*}*") = strTst fun _ => true := by kernel_rfl
theorem okN {wd : Str} (h : Five wd) : OkPat (patN wd) := by
  rcases h with rfl | rfl | rfl | rfl | rfl <;> exact ⟨by decide +kernel, .inr (.inr (.inl (by decide +kernel)))⟩
theorem okA : OkPat (Str.ofString "{}*") := ⟨by decide +kernel, .inr (.inl (by decide +kernel))⟩
theorem okT : OkPat (Str.ofString "{*}*") := ⟨by decide +kernel, .inl (by decide +kernel)⟩
end
-- PL5
section
theorem tag_r (md : Int) (nm : Str) : tagOf (Str.ofString "rights") md nm = some (Str.ofString "{" ++ fm md ++ Str.ofString "}" ++ nm) := rfl
theorem tag_a (md : Int) (nm : Str) : tagOf (Str.ofString "alone") md nm = some nm := rfl
theorem tag_n (md : Int) (nm : Str) : tagOf (Str.ofString "number") md nm = none := rfl
theorem tag_o (md : Int) (nm : Str) : tagOf (Str.ofString "open") md nm = some (Str.ofString "{" ++ fm md ++ nm) := rfl
theorem tag_e (md : Int) (nm : Str) : tagOf (Str.ofString "empty") md nm = some (Str.ofString "{}" ++ nm) := rfl
theorem tt_some (p : Str → Bool) (x : Str) : tagTst (strTst p) (some x) = p x := rfl
theorem tt_none (p : Str → Bool) : tagTst (strTst p) none = false := rfl
set_option maxHeartbeats 1000000 in
theorem T_R {m md : Int} (hm : 0 ≤ m) (hm' : m < 65536) (hd : 0 ≤ md) (hd' : md < 65536) (x : Int) : tagTst (tstOf (patR m)) (tagOf (shapeOf x) md (nmOf x)) = (rightsOf (shapeOf x) md == rightsOf (Str.ofString "rights") m) := by
  obtain ⟨c0, c1, c2, c3, c4, c5, c6, c7, c8, c9, ec, h0, _⟩ := fm_codes hm hm'
  obtain ⟨d0, d1, d2, d3, d4, d5, d6, d7, d8, d9, ed, _⟩ := fm_codes hd hd'
  rw [patR_is c0 c1 c2 c3 c4 c5 c6 c7 c8 c9 m ec, tstR c0 c1 c2 c3 c4 c5 c6 c7 c8 c9 h0]
  rcases shape_five x with hs | hs | hs | hs | hs
  · rw [hs, tag_r, ed, sb1, sb2, tt_some]
    rw [show Txt.slice ((⟨#[123]⟩ : Str) ++ (⟨#[d0, d1, d2, d3, d4, d5, d6, d7, d8, d9]⟩ : Str) ++ (⟨#[125]⟩ : Str) ++ nmOf x) none (some 12) = ⟨#[123, d0, d1, d2, d3, d4, d5, d6, d7, d8, d9, 125]⟩ from by rcases nm_five x with e | e | e | e | e <;> rw [e] <;> kernel_rfl]
    have hiff := fm_iff hd hd' hm hm'
    rw [ed, ec] at hiff
    rw [Bool.eq_iff_iff, beq_iff_eq, beq_iff_eq, ← hiff]
    simp
  · rw [hs, tag_a, tt_some]
    rcases nm_four hs with e | e | e | e <;> rw [e] <;> kernel_rfl
  · rw [hs, tag_n, tt_none]; rfl
  · rw [hs, tag_o, ed, sb1, tt_some, show (rightsOf (Str.ofString "open") md == rightsOf (Str.ofString "rights") m) = false from rfl]
    rcases nm_five x with e | e | e | e | e <;> rw [e]
    · rw [show Txt.slice ((⟨#[123]⟩ : Str) ++ (⟨#[d0, d1, d2, d3, d4, d5, d6, d7, d8, d9]⟩ : Str) ++ (⟨#[97]⟩ : Str)) none (some 12) = ⟨#[123, d0, d1, d2, d3, d4, d5, d6, d7, d8, d9, 97]⟩ from by kernel_rfl]; simp
    · rw [show Txt.slice ((⟨#[123]⟩ : Str) ++ (⟨#[d0, d1, d2, d3, d4, d5, d6, d7, d8, d9]⟩ : Str) ++ (⟨#[98]⟩ : Str)) none (some 12) = ⟨#[123, d0, d1, d2, d3, d4, d5, d6, d7, d8, d9, 98]⟩ from by kernel_rfl]; simp
    · rw [show Txt.slice ((⟨#[123]⟩ : Str) ++ (⟨#[d0, d1, d2, d3, d4, d5, d6, d7, d8, d9]⟩ : Str) ++ (⟨#[97, 98]⟩ : Str)) none (some 12) = ⟨#[123, d0, d1, d2, d3, d4, d5, d6, d7, d8, d9, 97]⟩ from by kernel_rfl]; simp
    · rw [show Txt.slice ((⟨#[123]⟩ : Str) ++ (⟨#[d0, d1, d2, d3, d4, d5, d6, d7, d8, d9]⟩ : Str) ++ (⟨#[98, 97]⟩ : Str)) none (some 12) = ⟨#[123, d0, d1, d2, d3, d4, d5, d6, d7, d8, d9, 98]⟩ from by kernel_rfl]; simp
    · kernel_rfl
  · rw [hs, tag_e, sb3, tt_some]
    rcases nm_five x with e | e | e | e | e <;> rw [e] <;> kernel_rfl
set_option maxHeartbeats 1000000 in
theorem T_A {md : Int} (hd : 0 ≤ md) (hd' : md < 65536) (x : Int) : tagTst (tstOf (Str.ofString "{}*")) (tagOf (shapeOf x) md (nmOf x)) = (shapeOf x == Str.ofString "alone") := by
  obtain ⟨d0, d1, d2, d3, d4, d5, d6, d7, d8, d9, ed, _⟩ := fm_codes hd hd'
  rw [tstA]
  rcases shape_five x with hs | hs | hs | hs | hs
  · rw [hs, tag_r, ed, sb1, sb2, tt_some]
    rcases nm_five x with e | e | e | e | e <;> rw [e] <;> kernel_rfl
  · rw [hs, tag_a, tt_some]
    rcases nm_four hs with e | e | e | e <;> rw [e] <;> kernel_rfl
  · rw [hs, tag_n, tt_none]; decide
  · rw [hs, tag_o, ed, sb1, tt_some]
    rcases nm_five x with e | e | e | e | e <;> rw [e] <;> kernel_rfl
  · rw [hs, tag_e, sb3, tt_some]
    rcases nm_five x with e | e | e | e | e <;> rw [e] <;> kernel_rfl
theorem T_T (md : Int) (x : Int) : tagTst (tstOf (Str.ofString "{*}*")) (tagOf (shapeOf x) md (nmOf x)) = (shapeOf x != Str.ofString "number") := by
  rw [tstT]
  rcases shape_five x with hs | hs | hs | hs | hs
  · rw [hs, tag_r, tt_some]; decide
  · rw [hs, tag_a, tt_some]; decide
  · rw [hs, tag_n, tt_none]; decide
  · rw [hs, tag_o, tt_some]; decide
  · rw [hs, tag_e, tt_some]; decide
end
-- PL6
section
theorem tn_r_a_a (d0 d1 d2 d3 d4 d5 d6 d7 d8 d9 : Nat) : ((⟨#[123, d0, d1, d2, d3, d4, d5, d6, d7, d8, d9, 125, 97]⟩ : Str) == (⟨#[97]⟩ : Str) || Txt.slice (⟨#[123, d0, d1, d2, d3, d4, d5, d6, d7, d8, d9, 125, 97]⟩ : Str) (some (-2)) none == (⟨#[125, 97]⟩ : Str)) = true := by rw [sl13_2]; simp
theorem tn_r_a_b (d0 d1 d2 d3 d4 d5 d6 d7 d8 d9 : Nat) : ((⟨#[123, d0, d1, d2, d3, d4, d5, d6, d7, d8, d9, 125, 98]⟩ : Str) == (⟨#[97]⟩ : Str) || Txt.slice (⟨#[123, d0, d1, d2, d3, d4, d5, d6, d7, d8, d9, 125, 98]⟩ : Str) (some (-2)) none == (⟨#[125, 97]⟩ : Str)) = false := by rw [sl13_2]; simp
theorem tn_r_a_ab (d0 d1 d2 d3 d4 d5 d6 d7 d8 d9 : Nat) : ((⟨#[123, d0, d1, d2, d3, d4, d5, d6, d7, d8, d9, 125, 97, 98]⟩ : Str) == (⟨#[97]⟩ : Str) || Txt.slice (⟨#[123, d0, d1, d2, d3, d4, d5, d6, d7, d8, d9, 125, 97, 98]⟩ : Str) (some (-2)) none == (⟨#[125, 97]⟩ : Str)) = false := by rw [sl14_2]; simp
theorem tn_r_a_ba (d0 d1 d2 d3 d4 d5 d6 d7 d8 d9 : Nat) : ((⟨#[123, d0, d1, d2, d3, d4, d5, d6, d7, d8, d9, 125, 98, 97]⟩ : Str) == (⟨#[97]⟩ : Str) || Txt.slice (⟨#[123, d0, d1, d2, d3, d4, d5, d6, d7, d8, d9, 125, 98, 97]⟩ : Str) (some (-2)) none == (⟨#[125, 97]⟩ : Str)) = false := by rw [sl14_2]; simp
theorem tn_r_a_n (d0 d1 d2 d3 d4 d5 d6 d7 d8 d9 : Nat) : ((⟨#[123, d0, d1, d2, d3, d4, d5, d6, d7, d8, d9, 125]⟩ : Str) == (⟨#[97]⟩ : Str) || Txt.slice (⟨#[123, d0, d1, d2, d3, d4, d5, d6, d7, d8, d9, 125]⟩ : Str) (some (-2)) none == (⟨#[125, 97]⟩ : Str)) = false := by rw [sl12_2]; simp
theorem tn_r_b_a (d0 d1 d2 d3 d4 d5 d6 d7 d8 d9 : Nat) : ((⟨#[123, d0, d1, d2, d3, d4, d5, d6, d7, d8, d9, 125, 97]⟩ : Str) == (⟨#[98]⟩ : Str) || Txt.slice (⟨#[123, d0, d1, d2, d3, d4, d5, d6, d7, d8, d9, 125, 97]⟩ : Str) (some (-2)) none == (⟨#[125, 98]⟩ : Str)) = false := by rw [sl13_2]; simp
theorem tn_r_b_b (d0 d1 d2 d3 d4 d5 d6 d7 d8 d9 : Nat) : ((⟨#[123, d0, d1, d2, d3, d4, d5, d6, d7, d8, d9, 125, 98]⟩ : Str) == (⟨#[98]⟩ : Str) || Txt.slice (⟨#[123, d0, d1, d2, d3, d4, d5, d6, d7, d8, d9, 125, 98]⟩ : Str) (some (-2)) none == (⟨#[125, 98]⟩ : Str)) = true := by rw [sl13_2]; simp
theorem tn_r_b_ab (d0 d1 d2 d3 d4 d5 d6 d7 d8 d9 : Nat) : ((⟨#[123, d0, d1, d2, d3, d4, d5, d6, d7, d8, d9, 125, 97, 98]⟩ : Str) == (⟨#[98]⟩ : Str) || Txt.slice (⟨#[123, d0, d1, d2, d3, d4, d5, d6, d7, d8, d9, 125, 97, 98]⟩ : Str) (some (-2)) none == (⟨#[125, 98]⟩ : Str)) = false := by rw [sl14_2]; simp
theorem tn_r_b_ba (d0 d1 d2 d3 d4 d5 d6 d7 d8 d9 : Nat) : ((⟨#[123, d0, d1, d2, d3, d4, d5, d6, d7, d8, d9, 125, 98, 97]⟩ : Str) == (⟨#[98]⟩ : Str) || Txt.slice (⟨#[123, d0, d1, d2, d3, d4, d5, d6, d7, d8, d9, 125, 98, 97]⟩ : Str) (some (-2)) none == (⟨#[125, 98]⟩ : Str)) = false := by rw [sl14_2]; simp
theorem tn_r_b_n (d0 d1 d2 d3 d4 d5 d6 d7 d8 d9 : Nat) : ((⟨#[123, d0, d1, d2, d3, d4, d5, d6, d7, d8, d9, 125]⟩ : Str) == (⟨#[98]⟩ : Str) || Txt.slice (⟨#[123, d0, d1, d2, d3, d4, d5, d6, d7, d8, d9, 125]⟩ : Str) (some (-2)) none == (⟨#[125, 98]⟩ : Str)) = false := by rw [sl12_2]; simp
theorem tn_r_ab_a (d0 d1 d2 d3 d4 d5 d6 d7 d8 d9 : Nat) : ((⟨#[123, d0, d1, d2, d3, d4, d5, d6, d7, d8, d9, 125, 97]⟩ : Str) == (⟨#[97, 98]⟩ : Str) || Txt.slice (⟨#[123, d0, d1, d2, d3, d4, d5, d6, d7, d8, d9, 125, 97]⟩ : Str) (some (-3)) none == (⟨#[125, 97, 98]⟩ : Str)) = false := by rw [sl13_3]; simp
theorem tn_r_ab_b (d0 d1 d2 d3 d4 d5 d6 d7 d8 d9 : Nat) : ((⟨#[123, d0, d1, d2, d3, d4, d5, d6, d7, d8, d9, 125, 98]⟩ : Str) == (⟨#[97, 98]⟩ : Str) || Txt.slice (⟨#[123, d0, d1, d2, d3, d4, d5, d6, d7, d8, d9, 125, 98]⟩ : Str) (some (-3)) none == (⟨#[125, 97, 98]⟩ : Str)) = false := by rw [sl13_3]; simp
theorem tn_r_ab_ab (d0 d1 d2 d3 d4 d5 d6 d7 d8 d9 : Nat) : ((⟨#[123, d0, d1, d2, d3, d4, d5, d6, d7, d8, d9, 125, 97, 98]⟩ : Str) == (⟨#[97, 98]⟩ : Str) || Txt.slice (⟨#[123, d0, d1, d2, d3, d4, d5, d6, d7, d8, d9, 125, 97, 98]⟩ : Str) (some (-3)) none == (⟨#[125, 97, 98]⟩ : Str)) = true := by rw [sl14_3]; simp
theorem tn_r_ab_ba (d0 d1 d2 d3 d4 d5 d6 d7 d8 d9 : Nat) : ((⟨#[123, d0, d1, d2, d3, d4, d5, d6, d7, d8, d9, 125, 98, 97]⟩ : Str) == (⟨#[97, 98]⟩ : Str) || Txt.slice (⟨#[123, d0, d1, d2, d3, d4, d5, d6, d7, d8, d9, 125, 98, 97]⟩ : Str) (some (-3)) none == (⟨#[125, 97, 98]⟩ : Str)) = false := by rw [sl14_3]; simp
theorem tn_r_ab_n (d0 d1 d2 d3 d4 d5 d6 d7 d8 d9 : Nat) : ((⟨#[123, d0, d1, d2, d3, d4, d5, d6, d7, d8, d9, 125]⟩ : Str) == (⟨#[97, 98]⟩ : Str) || Txt.slice (⟨#[123, d0, d1, d2, d3, d4, d5, d6, d7, d8, d9, 125]⟩ : Str) (some (-3)) none == (⟨#[125, 97, 98]⟩ : Str)) = false := by rw [sl12_3]; simp
theorem tn_r_ba_a (d0 d1 d2 d3 d4 d5 d6 d7 d8 d9 : Nat) : ((⟨#[123, d0, d1, d2, d3, d4, d5, d6, d7, d8, d9, 125, 97]⟩ : Str) == (⟨#[98, 97]⟩ : Str) || Txt.slice (⟨#[123, d0, d1, d2, d3, d4, d5, d6, d7, d8, d9, 125, 97]⟩ : Str) (some (-3)) none == (⟨#[125, 98, 97]⟩ : Str)) = false := by rw [sl13_3]; simp
theorem tn_r_ba_b (d0 d1 d2 d3 d4 d5 d6 d7 d8 d9 : Nat) : ((⟨#[123, d0, d1, d2, d3, d4, d5, d6, d7, d8, d9, 125, 98]⟩ : Str) == (⟨#[98, 97]⟩ : Str) || Txt.slice (⟨#[123, d0, d1, d2, d3, d4, d5, d6, d7, d8, d9, 125, 98]⟩ : Str) (some (-3)) none == (⟨#[125, 98, 97]⟩ : Str)) = false := by rw [sl13_3]; simp
theorem tn_r_ba_ab (d0 d1 d2 d3 d4 d5 d6 d7 d8 d9 : Nat) : ((⟨#[123, d0, d1, d2, d3, d4, d5, d6, d7, d8, d9, 125, 97, 98]⟩ : Str) == (⟨#[98, 97]⟩ : Str) || Txt.slice (⟨#[123, d0, d1, d2, d3, d4, d5, d6, d7, d8, d9, 125, 97, 98]⟩ : Str) (some (-3)) none == (⟨#[125, 98, 97]⟩ : Str)) = false := by rw [sl14_3]; simp
theorem tn_r_ba_ba (d0 d1 d2 d3 d4 d5 d6 d7 d8 d9 : Nat) : ((⟨#[123, d0, d1, d2, d3, d4, d5, d6, d7, d8, d9, 125, 98, 97]⟩ : Str) == (⟨#[98, 97]⟩ : Str) || Txt.slice (⟨#[123, d0, d1, d2, d3, d4, d5, d6, d7, d8, d9, 125, 98, 97]⟩ : Str) (some (-3)) none == (⟨#[125, 98, 97]⟩ : Str)) = true := by rw [sl14_3]; simp
theorem tn_r_ba_n (d0 d1 d2 d3 d4 d5 d6 d7 d8 d9 : Nat) : ((⟨#[123, d0, d1, d2, d3, d4, d5, d6, d7, d8, d9, 125]⟩ : Str) == (⟨#[98, 97]⟩ : Str) || Txt.slice (⟨#[123, d0, d1, d2, d3, d4, d5, d6, d7, d8, d9, 125]⟩ : Str) (some (-3)) none == (⟨#[125, 98, 97]⟩ : Str)) = false := by rw [sl12_3]; simp
theorem tn_r_n_a (d0 d1 d2 d3 d4 d5 d6 d7 d8 d9 : Nat) : ((⟨#[123, d0, d1, d2, d3, d4, d5, d6, d7, d8, d9, 125, 97]⟩ : Str) == (⟨#[]⟩ : Str) || Txt.slice (⟨#[123, d0, d1, d2, d3, d4, d5, d6, d7, d8, d9, 125, 97]⟩ : Str) (some (-1)) none == (⟨#[125]⟩ : Str)) = false := by rw [sl13_1]; simp
theorem tn_r_n_b (d0 d1 d2 d3 d4 d5 d6 d7 d8 d9 : Nat) : ((⟨#[123, d0, d1, d2, d3, d4, d5, d6, d7, d8, d9, 125, 98]⟩ : Str) == (⟨#[]⟩ : Str) || Txt.slice (⟨#[123, d0, d1, d2, d3, d4, d5, d6, d7, d8, d9, 125, 98]⟩ : Str) (some (-1)) none == (⟨#[125]⟩ : Str)) = false := by rw [sl13_1]; simp
theorem tn_r_n_ab (d0 d1 d2 d3 d4 d5 d6 d7 d8 d9 : Nat) : ((⟨#[123, d0, d1, d2, d3, d4, d5, d6, d7, d8, d9, 125, 97, 98]⟩ : Str) == (⟨#[]⟩ : Str) || Txt.slice (⟨#[123, d0, d1, d2, d3, d4, d5, d6, d7, d8, d9, 125, 97, 98]⟩ : Str) (some (-1)) none == (⟨#[125]⟩ : Str)) = false := by rw [sl14_1]; simp
theorem tn_r_n_ba (d0 d1 d2 d3 d4 d5 d6 d7 d8 d9 : Nat) : ((⟨#[123, d0, d1, d2, d3, d4, d5, d6, d7, d8, d9, 125, 98, 97]⟩ : Str) == (⟨#[]⟩ : Str) || Txt.slice (⟨#[123, d0, d1, d2, d3, d4, d5, d6, d7, d8, d9, 125, 98, 97]⟩ : Str) (some (-1)) none == (⟨#[125]⟩ : Str)) = false := by rw [sl14_1]; simp
theorem tn_r_n_n (d0 d1 d2 d3 d4 d5 d6 d7 d8 d9 : Nat) : ((⟨#[123, d0, d1, d2, d3, d4, d5, d6, d7, d8, d9, 125]⟩ : Str) == (⟨#[]⟩ : Str) || Txt.slice (⟨#[123, d0, d1, d2, d3, d4, d5, d6, d7, d8, d9, 125]⟩ : Str) (some (-1)) none == (⟨#[125]⟩ : Str)) = true := by rw [sl12_1]; simp
theorem tn_a_a_a (d0 d1 d2 d3 d4 d5 d6 d7 d8 d9 : Nat) : ((⟨#[97]⟩ : Str) == (⟨#[97]⟩ : Str) || Txt.slice (⟨#[97]⟩ : Str) (some (-2)) none == (⟨#[125, 97]⟩ : Str)) = true := by rw [sl1_2]; simp
theorem tn_a_a_b (d0 d1 d2 d3 d4 d5 d6 d7 d8 d9 : Nat) : ((⟨#[98]⟩ : Str) == (⟨#[97]⟩ : Str) || Txt.slice (⟨#[98]⟩ : Str) (some (-2)) none == (⟨#[125, 97]⟩ : Str)) = false := by rw [sl1_2]; simp
theorem tn_a_a_ab (d0 d1 d2 d3 d4 d5 d6 d7 d8 d9 : Nat) : ((⟨#[97, 98]⟩ : Str) == (⟨#[97]⟩ : Str) || Txt.slice (⟨#[97, 98]⟩ : Str) (some (-2)) none == (⟨#[125, 97]⟩ : Str)) = false := by rw [sl2_2]; simp
theorem tn_a_a_ba (d0 d1 d2 d3 d4 d5 d6 d7 d8 d9 : Nat) : ((⟨#[98, 97]⟩ : Str) == (⟨#[97]⟩ : Str) || Txt.slice (⟨#[98, 97]⟩ : Str) (some (-2)) none == (⟨#[125, 97]⟩ : Str)) = false := by rw [sl2_2]; simp
theorem tn_a_b_a (d0 d1 d2 d3 d4 d5 d6 d7 d8 d9 : Nat) : ((⟨#[97]⟩ : Str) == (⟨#[98]⟩ : Str) || Txt.slice (⟨#[97]⟩ : Str) (some (-2)) none == (⟨#[125, 98]⟩ : Str)) = false := by rw [sl1_2]; simp
theorem tn_a_b_b (d0 d1 d2 d3 d4 d5 d6 d7 d8 d9 : Nat) : ((⟨#[98]⟩ : Str) == (⟨#[98]⟩ : Str) || Txt.slice (⟨#[98]⟩ : Str) (some (-2)) none == (⟨#[125, 98]⟩ : Str)) = true := by rw [sl1_2]; simp
theorem tn_a_b_ab (d0 d1 d2 d3 d4 d5 d6 d7 d8 d9 : Nat) : ((⟨#[97, 98]⟩ : Str) == (⟨#[98]⟩ : Str) || Txt.slice (⟨#[97, 98]⟩ : Str) (some (-2)) none == (⟨#[125, 98]⟩ : Str)) = false := by rw [sl2_2]; simp
theorem tn_a_b_ba (d0 d1 d2 d3 d4 d5 d6 d7 d8 d9 : Nat) : ((⟨#[98, 97]⟩ : Str) == (⟨#[98]⟩ : Str) || Txt.slice (⟨#[98, 97]⟩ : Str) (some (-2)) none == (⟨#[125, 98]⟩ : Str)) = false := by rw [sl2_2]; simp
theorem tn_a_ab_a (d0 d1 d2 d3 d4 d5 d6 d7 d8 d9 : Nat) : ((⟨#[97]⟩ : Str) == (⟨#[97, 98]⟩ : Str) || Txt.slice (⟨#[97]⟩ : Str) (some (-3)) none == (⟨#[125, 97, 98]⟩ : Str)) = false := by rw [sl1_3]; simp
theorem tn_a_ab_b (d0 d1 d2 d3 d4 d5 d6 d7 d8 d9 : Nat) : ((⟨#[98]⟩ : Str) == (⟨#[97, 98]⟩ : Str) || Txt.slice (⟨#[98]⟩ : Str) (some (-3)) none == (⟨#[125, 97, 98]⟩ : Str)) = false := by rw [sl1_3]; simp
theorem tn_a_ab_ab (d0 d1 d2 d3 d4 d5 d6 d7 d8 d9 : Nat) : ((⟨#[97, 98]⟩ : Str) == (⟨#[97, 98]⟩ : Str) || Txt.slice (⟨#[97, 98]⟩ : Str) (some (-3)) none == (⟨#[125, 97, 98]⟩ : Str)) = true := by rw [sl2_3]; simp
theorem tn_a_ab_ba (d0 d1 d2 d3 d4 d5 d6 d7 d8 d9 : Nat) : ((⟨#[98, 97]⟩ : Str) == (⟨#[97, 98]⟩ : Str) || Txt.slice (⟨#[98, 97]⟩ : Str) (some (-3)) none == (⟨#[125, 97, 98]⟩ : Str)) = false := by rw [sl2_3]; simp
theorem tn_a_ba_a (d0 d1 d2 d3 d4 d5 d6 d7 d8 d9 : Nat) : ((⟨#[97]⟩ : Str) == (⟨#[98, 97]⟩ : Str) || Txt.slice (⟨#[97]⟩ : Str) (some (-3)) none == (⟨#[125, 98, 97]⟩ : Str)) = false := by rw [sl1_3]; simp
theorem tn_a_ba_b (d0 d1 d2 d3 d4 d5 d6 d7 d8 d9 : Nat) : ((⟨#[98]⟩ : Str) == (⟨#[98, 97]⟩ : Str) || Txt.slice (⟨#[98]⟩ : Str) (some (-3)) none == (⟨#[125, 98, 97]⟩ : Str)) = false := by rw [sl1_3]; simp
theorem tn_a_ba_ab (d0 d1 d2 d3 d4 d5 d6 d7 d8 d9 : Nat) : ((⟨#[97, 98]⟩ : Str) == (⟨#[98, 97]⟩ : Str) || Txt.slice (⟨#[97, 98]⟩ : Str) (some (-3)) none == (⟨#[125, 98, 97]⟩ : Str)) = false := by rw [sl2_3]; simp
theorem tn_a_ba_ba (d0 d1 d2 d3 d4 d5 d6 d7 d8 d9 : Nat) : ((⟨#[98, 97]⟩ : Str) == (⟨#[98, 97]⟩ : Str) || Txt.slice (⟨#[98, 97]⟩ : Str) (some (-3)) none == (⟨#[125, 98, 97]⟩ : Str)) = true := by rw [sl2_3]; simp
theorem tn_a_n_a (d0 d1 d2 d3 d4 d5 d6 d7 d8 d9 : Nat) : ((⟨#[97]⟩ : Str) == (⟨#[]⟩ : Str) || Txt.slice (⟨#[97]⟩ : Str) (some (-1)) none == (⟨#[125]⟩ : Str)) = false := by rw [sl1_1]; simp
theorem tn_a_n_b (d0 d1 d2 d3 d4 d5 d6 d7 d8 d9 : Nat) : ((⟨#[98]⟩ : Str) == (⟨#[]⟩ : Str) || Txt.slice (⟨#[98]⟩ : Str) (some (-1)) none == (⟨#[125]⟩ : Str)) = false := by rw [sl1_1]; simp
theorem tn_a_n_ab (d0 d1 d2 d3 d4 d5 d6 d7 d8 d9 : Nat) : ((⟨#[97, 98]⟩ : Str) == (⟨#[]⟩ : Str) || Txt.slice (⟨#[97, 98]⟩ : Str) (some (-1)) none == (⟨#[125]⟩ : Str)) = false := by rw [sl2_1]; simp
theorem tn_a_n_ba (d0 d1 d2 d3 d4 d5 d6 d7 d8 d9 : Nat) : ((⟨#[98, 97]⟩ : Str) == (⟨#[]⟩ : Str) || Txt.slice (⟨#[98, 97]⟩ : Str) (some (-1)) none == (⟨#[125]⟩ : Str)) = false := by rw [sl2_1]; simp
theorem tn_o_a_a (d0 d1 d2 d3 d4 d5 d6 d7 d8 d9 : Nat) (h7 : d7 ≠ 125) (h8 : d8 ≠ 125) (h9 : d9 ≠ 125) : ((⟨#[123, d0, d1, d2, d3, d4, d5, d6, d7, d8, d9, 97]⟩ : Str) == (⟨#[97]⟩ : Str) || Txt.slice (⟨#[123, d0, d1, d2, d3, d4, d5, d6, d7, d8, d9, 97]⟩ : Str) (some (-2)) none == (⟨#[125, 97]⟩ : Str)) = false := by rw [sl12_2]; simp [*]
theorem tn_o_a_b (d0 d1 d2 d3 d4 d5 d6 d7 d8 d9 : Nat) (h7 : d7 ≠ 125) (h8 : d8 ≠ 125) (h9 : d9 ≠ 125) : ((⟨#[123, d0, d1, d2, d3, d4, d5, d6, d7, d8, d9, 98]⟩ : Str) == (⟨#[97]⟩ : Str) || Txt.slice (⟨#[123, d0, d1, d2, d3, d4, d5, d6, d7, d8, d9, 98]⟩ : Str) (some (-2)) none == (⟨#[125, 97]⟩ : Str)) = false := by rw [sl12_2]; simp [*]
theorem tn_o_a_ab (d0 d1 d2 d3 d4 d5 d6 d7 d8 d9 : Nat) (h7 : d7 ≠ 125) (h8 : d8 ≠ 125) (h9 : d9 ≠ 125) : ((⟨#[123, d0, d1, d2, d3, d4, d5, d6, d7, d8, d9, 97, 98]⟩ : Str) == (⟨#[97]⟩ : Str) || Txt.slice (⟨#[123, d0, d1, d2, d3, d4, d5, d6, d7, d8, d9, 97, 98]⟩ : Str) (some (-2)) none == (⟨#[125, 97]⟩ : Str)) = false := by rw [sl13_2]; simp [*]
theorem tn_o_a_ba (d0 d1 d2 d3 d4 d5 d6 d7 d8 d9 : Nat) (h7 : d7 ≠ 125) (h8 : d8 ≠ 125) (h9 : d9 ≠ 125) : ((⟨#[123, d0, d1, d2, d3, d4, d5, d6, d7, d8, d9, 98, 97]⟩ : Str) == (⟨#[97]⟩ : Str) || Txt.slice (⟨#[123, d0, d1, d2, d3, d4, d5, d6, d7, d8, d9, 98, 97]⟩ : Str) (some (-2)) none == (⟨#[125, 97]⟩ : Str)) = false := by rw [sl13_2]; simp [*]
theorem tn_o_a_n (d0 d1 d2 d3 d4 d5 d6 d7 d8 d9 : Nat) (h7 : d7 ≠ 125) (h8 : d8 ≠ 125) (h9 : d9 ≠ 125) : ((⟨#[123, d0, d1, d2, d3, d4, d5, d6, d7, d8, d9]⟩ : Str) == (⟨#[97]⟩ : Str) || Txt.slice (⟨#[123, d0, d1, d2, d3, d4, d5, d6, d7, d8, d9]⟩ : Str) (some (-2)) none == (⟨#[125, 97]⟩ : Str)) = false := by rw [sl11_2]; simp [*]
theorem tn_o_b_a (d0 d1 d2 d3 d4 d5 d6 d7 d8 d9 : Nat) (h7 : d7 ≠ 125) (h8 : d8 ≠ 125) (h9 : d9 ≠ 125) : ((⟨#[123, d0, d1, d2, d3, d4, d5, d6, d7, d8, d9, 97]⟩ : Str) == (⟨#[98]⟩ : Str) || Txt.slice (⟨#[123, d0, d1, d2, d3, d4, d5, d6, d7, d8, d9, 97]⟩ : Str) (some (-2)) none == (⟨#[125, 98]⟩ : Str)) = false := by rw [sl12_2]; simp [*]
theorem tn_o_b_b (d0 d1 d2 d3 d4 d5 d6 d7 d8 d9 : Nat) (h7 : d7 ≠ 125) (h8 : d8 ≠ 125) (h9 : d9 ≠ 125) : ((⟨#[123, d0, d1, d2, d3, d4, d5, d6, d7, d8, d9, 98]⟩ : Str) == (⟨#[98]⟩ : Str) || Txt.slice (⟨#[123, d0, d1, d2, d3, d4, d5, d6, d7, d8, d9, 98]⟩ : Str) (some (-2)) none == (⟨#[125, 98]⟩ : Str)) = false := by rw [sl12_2]; simp [*]
theorem tn_o_b_ab (d0 d1 d2 d3 d4 d5 d6 d7 d8 d9 : Nat) (h7 : d7 ≠ 125) (h8 : d8 ≠ 125) (h9 : d9 ≠ 125) : ((⟨#[123, d0, d1, d2, d3, d4, d5, d6, d7, d8, d9, 97, 98]⟩ : Str) == (⟨#[98]⟩ : Str) || Txt.slice (⟨#[123, d0, d1, d2, d3, d4, d5, d6, d7, d8, d9, 97, 98]⟩ : Str) (some (-2)) none == (⟨#[125, 98]⟩ : Str)) = false := by rw [sl13_2]; simp [*]
theorem tn_o_b_ba (d0 d1 d2 d3 d4 d5 d6 d7 d8 d9 : Nat) (h7 : d7 ≠ 125) (h8 : d8 ≠ 125) (h9 : d9 ≠ 125) : ((⟨#[123, d0, d1, d2, d3, d4, d5, d6, d7, d8, d9, 98, 97]⟩ : Str) == (⟨#[98]⟩ : Str) || Txt.slice (⟨#[123, d0, d1, d2, d3, d4, d5, d6, d7, d8, d9, 98, 97]⟩ : Str) (some (-2)) none == (⟨#[125, 98]⟩ : Str)) = false := by rw [sl13_2]; simp [*]
theorem tn_o_b_n (d0 d1 d2 d3 d4 d5 d6 d7 d8 d9 : Nat) (h7 : d7 ≠ 125) (h8 : d8 ≠ 125) (h9 : d9 ≠ 125) : ((⟨#[123, d0, d1, d2, d3, d4, d5, d6, d7, d8, d9]⟩ : Str) == (⟨#[98]⟩ : Str) || Txt.slice (⟨#[123, d0, d1, d2, d3, d4, d5, d6, d7, d8, d9]⟩ : Str) (some (-2)) none == (⟨#[125, 98]⟩ : Str)) = false := by rw [sl11_2]; simp [*]
theorem tn_o_ab_a (d0 d1 d2 d3 d4 d5 d6 d7 d8 d9 : Nat) (h7 : d7 ≠ 125) (h8 : d8 ≠ 125) (h9 : d9 ≠ 125) : ((⟨#[123, d0, d1, d2, d3, d4, d5, d6, d7, d8, d9, 97]⟩ : Str) == (⟨#[97, 98]⟩ : Str) || Txt.slice (⟨#[123, d0, d1, d2, d3, d4, d5, d6, d7, d8, d9, 97]⟩ : Str) (some (-3)) none == (⟨#[125, 97, 98]⟩ : Str)) = false := by rw [sl12_3]; simp [*]
theorem tn_o_ab_b (d0 d1 d2 d3 d4 d5 d6 d7 d8 d9 : Nat) (h7 : d7 ≠ 125) (h8 : d8 ≠ 125) (h9 : d9 ≠ 125) : ((⟨#[123, d0, d1, d2, d3, d4, d5, d6, d7, d8, d9, 98]⟩ : Str) == (⟨#[97, 98]⟩ : Str) || Txt.slice (⟨#[123, d0, d1, d2, d3, d4, d5, d6, d7, d8, d9, 98]⟩ : Str) (some (-3)) none == (⟨#[125, 97, 98]⟩ : Str)) = false := by rw [sl12_3]; simp [*]
theorem tn_o_ab_ab (d0 d1 d2 d3 d4 d5 d6 d7 d8 d9 : Nat) (h7 : d7 ≠ 125) (h8 : d8 ≠ 125) (h9 : d9 ≠ 125) : ((⟨#[123, d0, d1, d2, d3, d4, d5, d6, d7, d8, d9, 97, 98]⟩ : Str) == (⟨#[97, 98]⟩ : Str) || Txt.slice (⟨#[123, d0, d1, d2, d3, d4, d5, d6, d7, d8, d9, 97, 98]⟩ : Str) (some (-3)) none == (⟨#[125, 97, 98]⟩ : Str)) = false := by rw [sl13_3]; simp [*]
theorem tn_o_ab_ba (d0 d1 d2 d3 d4 d5 d6 d7 d8 d9 : Nat) (h7 : d7 ≠ 125) (h8 : d8 ≠ 125) (h9 : d9 ≠ 125) : ((⟨#[123, d0, d1, d2, d3, d4, d5, d6, d7, d8, d9, 98, 97]⟩ : Str) == (⟨#[97, 98]⟩ : Str) || Txt.slice (⟨#[123, d0, d1, d2, d3, d4, d5, d6, d7, d8, d9, 98, 97]⟩ : Str) (some (-3)) none == (⟨#[125, 97, 98]⟩ : Str)) = false := by rw [sl13_3]; simp [*]
theorem tn_o_ab_n (d0 d1 d2 d3 d4 d5 d6 d7 d8 d9 : Nat) (h7 : d7 ≠ 125) (h8 : d8 ≠ 125) (h9 : d9 ≠ 125) : ((⟨#[123, d0, d1, d2, d3, d4, d5, d6, d7, d8, d9]⟩ : Str) == (⟨#[97, 98]⟩ : Str) || Txt.slice (⟨#[123, d0, d1, d2, d3, d4, d5, d6, d7, d8, d9]⟩ : Str) (some (-3)) none == (⟨#[125, 97, 98]⟩ : Str)) = false := by rw [sl11_3]; simp [*]
theorem tn_o_ba_a (d0 d1 d2 d3 d4 d5 d6 d7 d8 d9 : Nat) (h7 : d7 ≠ 125) (h8 : d8 ≠ 125) (h9 : d9 ≠ 125) : ((⟨#[123, d0, d1, d2, d3, d4, d5, d6, d7, d8, d9, 97]⟩ : Str) == (⟨#[98, 97]⟩ : Str) || Txt.slice (⟨#[123, d0, d1, d2, d3, d4, d5, d6, d7, d8, d9, 97]⟩ : Str) (some (-3)) none == (⟨#[125, 98, 97]⟩ : Str)) = false := by rw [sl12_3]; simp [*]
theorem tn_o_ba_b (d0 d1 d2 d3 d4 d5 d6 d7 d8 d9 : Nat) (h7 : d7 ≠ 125) (h8 : d8 ≠ 125) (h9 : d9 ≠ 125) : ((⟨#[123, d0, d1, d2, d3, d4, d5, d6, d7, d8, d9, 98]⟩ : Str) == (⟨#[98, 97]⟩ : Str) || Txt.slice (⟨#[123, d0, d1, d2, d3, d4, d5, d6, d7, d8, d9, 98]⟩ : Str) (some (-3)) none == (⟨#[125, 98, 97]⟩ : Str)) = false := by rw [sl12_3]; simp [*]
theorem tn_o_ba_ab (d0 d1 d2 d3 d4 d5 d6 d7 d8 d9 : Nat) (h7 : d7 ≠ 125) (h8 : d8 ≠ 125) (h9 : d9 ≠ 125) : ((⟨#[123, d0, d1, d2, d3, d4, d5, d6, d7, d8, d9, 97, 98]⟩ : Str) == (⟨#[98, 97]⟩ : Str) || Txt.slice (⟨#[123, d0, d1, d2, d3, d4, d5, d6, d7, d8, d9, 97, 98]⟩ : Str) (some (-3)) none == (⟨#[125, 98, 97]⟩ : Str)) = false := by rw [sl13_3]; simp [*]
theorem tn_o_ba_ba (d0 d1 d2 d3 d4 d5 d6 d7 d8 d9 : Nat) (h7 : d7 ≠ 125) (h8 : d8 ≠ 125) (h9 : d9 ≠ 125) : ((⟨#[123, d0, d1, d2, d3, d4, d5, d6, d7, d8, d9, 98, 97]⟩ : Str) == (⟨#[98, 97]⟩ : Str) || Txt.slice (⟨#[123, d0, d1, d2, d3, d4, d5, d6, d7, d8, d9, 98, 97]⟩ : Str) (some (-3)) none == (⟨#[125, 98, 97]⟩ : Str)) = false := by rw [sl13_3]; simp [*]
theorem tn_o_ba_n (d0 d1 d2 d3 d4 d5 d6 d7 d8 d9 : Nat) (h7 : d7 ≠ 125) (h8 : d8 ≠ 125) (h9 : d9 ≠ 125) : ((⟨#[123, d0, d1, d2, d3, d4, d5, d6, d7, d8, d9]⟩ : Str) == (⟨#[98, 97]⟩ : Str) || Txt.slice (⟨#[123, d0, d1, d2, d3, d4, d5, d6, d7, d8, d9]⟩ : Str) (some (-3)) none == (⟨#[125, 98, 97]⟩ : Str)) = false := by rw [sl11_3]; simp [*]
theorem tn_o_n_a (d0 d1 d2 d3 d4 d5 d6 d7 d8 d9 : Nat) (h7 : d7 ≠ 125) (h8 : d8 ≠ 125) (h9 : d9 ≠ 125) : ((⟨#[123, d0, d1, d2, d3, d4, d5, d6, d7, d8, d9, 97]⟩ : Str) == (⟨#[]⟩ : Str) || Txt.slice (⟨#[123, d0, d1, d2, d3, d4, d5, d6, d7, d8, d9, 97]⟩ : Str) (some (-1)) none == (⟨#[125]⟩ : Str)) = false := by rw [sl12_1]; simp [*]
theorem tn_o_n_b (d0 d1 d2 d3 d4 d5 d6 d7 d8 d9 : Nat) (h7 : d7 ≠ 125) (h8 : d8 ≠ 125) (h9 : d9 ≠ 125) : ((⟨#[123, d0, d1, d2, d3, d4, d5, d6, d7, d8, d9, 98]⟩ : Str) == (⟨#[]⟩ : Str) || Txt.slice (⟨#[123, d0, d1, d2, d3, d4, d5, d6, d7, d8, d9, 98]⟩ : Str) (some (-1)) none == (⟨#[125]⟩ : Str)) = false := by rw [sl12_1]; simp [*]
theorem tn_o_n_ab (d0 d1 d2 d3 d4 d5 d6 d7 d8 d9 : Nat) (h7 : d7 ≠ 125) (h8 : d8 ≠ 125) (h9 : d9 ≠ 125) : ((⟨#[123, d0, d1, d2, d3, d4, d5, d6, d7, d8, d9, 97, 98]⟩ : Str) == (⟨#[]⟩ : Str) || Txt.slice (⟨#[123, d0, d1, d2, d3, d4, d5, d6, d7, d8, d9, 97, 98]⟩ : Str) (some (-1)) none == (⟨#[125]⟩ : Str)) = false := by rw [sl13_1]; simp [*]
theorem tn_o_n_ba (d0 d1 d2 d3 d4 d5 d6 d7 d8 d9 : Nat) (h7 : d7 ≠ 125) (h8 : d8 ≠ 125) (h9 : d9 ≠ 125) : ((⟨#[123, d0, d1, d2, d3, d4, d5, d6, d7, d8, d9, 98, 97]⟩ : Str) == (⟨#[]⟩ : Str) || Txt.slice (⟨#[123, d0, d1, d2, d3, d4, d5, d6, d7, d8, d9, 98, 97]⟩ : Str) (some (-1)) none == (⟨#[125]⟩ : Str)) = false := by rw [sl13_1]; simp [*]
theorem tn_o_n_n (d0 d1 d2 d3 d4 d5 d6 d7 d8 d9 : Nat) (h7 : d7 ≠ 125) (h8 : d8 ≠ 125) (h9 : d9 ≠ 125) : ((⟨#[123, d0, d1, d2, d3, d4, d5, d6, d7, d8, d9]⟩ : Str) == (⟨#[]⟩ : Str) || Txt.slice (⟨#[123, d0, d1, d2, d3, d4, d5, d6, d7, d8, d9]⟩ : Str) (some (-1)) none == (⟨#[125]⟩ : Str)) = false := by rw [sl11_1]; simp [*]
theorem tn_e_a_a (d0 d1 d2 d3 d4 d5 d6 d7 d8 d9 : Nat) : ((⟨#[123, 125, 97]⟩ : Str) == (⟨#[97]⟩ : Str) || Txt.slice (⟨#[123, 125, 97]⟩ : Str) (some (-2)) none == (⟨#[125, 97]⟩ : Str)) = true := by rw [sl3_2]; simp
theorem tn_e_a_b (d0 d1 d2 d3 d4 d5 d6 d7 d8 d9 : Nat) : ((⟨#[123, 125, 98]⟩ : Str) == (⟨#[97]⟩ : Str) || Txt.slice (⟨#[123, 125, 98]⟩ : Str) (some (-2)) none == (⟨#[125, 97]⟩ : Str)) = false := by rw [sl3_2]; simp
theorem tn_e_a_ab (d0 d1 d2 d3 d4 d5 d6 d7 d8 d9 : Nat) : ((⟨#[123, 125, 97, 98]⟩ : Str) == (⟨#[97]⟩ : Str) || Txt.slice (⟨#[123, 125, 97, 98]⟩ : Str) (some (-2)) none == (⟨#[125, 97]⟩ : Str)) = false := by rw [sl4_2]; simp
theorem tn_e_a_ba (d0 d1 d2 d3 d4 d5 d6 d7 d8 d9 : Nat) : ((⟨#[123, 125, 98, 97]⟩ : Str) == (⟨#[97]⟩ : Str) || Txt.slice (⟨#[123, 125, 98, 97]⟩ : Str) (some (-2)) none == (⟨#[125, 97]⟩ : Str)) = false := by rw [sl4_2]; simp
theorem tn_e_a_n (d0 d1 d2 d3 d4 d5 d6 d7 d8 d9 : Nat) : ((⟨#[123, 125]⟩ : Str) == (⟨#[97]⟩ : Str) || Txt.slice (⟨#[123, 125]⟩ : Str) (some (-2)) none == (⟨#[125, 97]⟩ : Str)) = false := by rw [sl2_2]; simp
theorem tn_e_b_a (d0 d1 d2 d3 d4 d5 d6 d7 d8 d9 : Nat) : ((⟨#[123, 125, 97]⟩ : Str) == (⟨#[98]⟩ : Str) || Txt.slice (⟨#[123, 125, 97]⟩ : Str) (some (-2)) none == (⟨#[125, 98]⟩ : Str)) = false := by rw [sl3_2]; simp
theorem tn_e_b_b (d0 d1 d2 d3 d4 d5 d6 d7 d8 d9 : Nat) : ((⟨#[123, 125, 98]⟩ : Str) == (⟨#[98]⟩ : Str) || Txt.slice (⟨#[123, 125, 98]⟩ : Str) (some (-2)) none == (⟨#[125, 98]⟩ : Str)) = true := by rw [sl3_2]; simp
theorem tn_e_b_ab (d0 d1 d2 d3 d4 d5 d6 d7 d8 d9 : Nat) : ((⟨#[123, 125, 97, 98]⟩ : Str) == (⟨#[98]⟩ : Str) || Txt.slice (⟨#[123, 125, 97, 98]⟩ : Str) (some (-2)) none == (⟨#[125, 98]⟩ : Str)) = false := by rw [sl4_2]; simp
theorem tn_e_b_ba (d0 d1 d2 d3 d4 d5 d6 d7 d8 d9 : Nat) : ((⟨#[123, 125, 98, 97]⟩ : Str) == (⟨#[98]⟩ : Str) || Txt.slice (⟨#[123, 125, 98, 97]⟩ : Str) (some (-2)) none == (⟨#[125, 98]⟩ : Str)) = false := by rw [sl4_2]; simp
theorem tn_e_b_n (d0 d1 d2 d3 d4 d5 d6 d7 d8 d9 : Nat) : ((⟨#[123, 125]⟩ : Str) == (⟨#[98]⟩ : Str) || Txt.slice (⟨#[123, 125]⟩ : Str) (some (-2)) none == (⟨#[125, 98]⟩ : Str)) = false := by rw [sl2_2]; simp
theorem tn_e_ab_a (d0 d1 d2 d3 d4 d5 d6 d7 d8 d9 : Nat) : ((⟨#[123, 125, 97]⟩ : Str) == (⟨#[97, 98]⟩ : Str) || Txt.slice (⟨#[123, 125, 97]⟩ : Str) (some (-3)) none == (⟨#[125, 97, 98]⟩ : Str)) = false := by rw [sl3_3]; simp
theorem tn_e_ab_b (d0 d1 d2 d3 d4 d5 d6 d7 d8 d9 : Nat) : ((⟨#[123, 125, 98]⟩ : Str) == (⟨#[97, 98]⟩ : Str) || Txt.slice (⟨#[123, 125, 98]⟩ : Str) (some (-3)) none == (⟨#[125, 97, 98]⟩ : Str)) = false := by rw [sl3_3]; simp
theorem tn_e_ab_ab (d0 d1 d2 d3 d4 d5 d6 d7 d8 d9 : Nat) : ((⟨#[123, 125, 97, 98]⟩ : Str) == (⟨#[97, 98]⟩ : Str) || Txt.slice (⟨#[123, 125, 97, 98]⟩ : Str) (some (-3)) none == (⟨#[125, 97, 98]⟩ : Str)) = true := by rw [sl4_3]; simp
theorem tn_e_ab_ba (d0 d1 d2 d3 d4 d5 d6 d7 d8 d9 : Nat) : ((⟨#[123, 125, 98, 97]⟩ : Str) == (⟨#[97, 98]⟩ : Str) || Txt.slice (⟨#[123, 125, 98, 97]⟩ : Str) (some (-3)) none == (⟨#[125, 97, 98]⟩ : Str)) = false := by rw [sl4_3]; simp
theorem tn_e_ab_n (d0 d1 d2 d3 d4 d5 d6 d7 d8 d9 : Nat) : ((⟨#[123, 125]⟩ : Str) == (⟨#[97, 98]⟩ : Str) || Txt.slice (⟨#[123, 125]⟩ : Str) (some (-3)) none == (⟨#[125, 97, 98]⟩ : Str)) = false := by rw [sl2_3]; simp
theorem tn_e_ba_a (d0 d1 d2 d3 d4 d5 d6 d7 d8 d9 : Nat) : ((⟨#[123, 125, 97]⟩ : Str) == (⟨#[98, 97]⟩ : Str) || Txt.slice (⟨#[123, 125, 97]⟩ : Str) (some (-3)) none == (⟨#[125, 98, 97]⟩ : Str)) = false := by rw [sl3_3]; simp
theorem tn_e_ba_b (d0 d1 d2 d3 d4 d5 d6 d7 d8 d9 : Nat) : ((⟨#[123, 125, 98]⟩ : Str) == (⟨#[98, 97]⟩ : Str) || Txt.slice (⟨#[123, 125, 98]⟩ : Str) (some (-3)) none == (⟨#[125, 98, 97]⟩ : Str)) = false := by rw [sl3_3]; simp
theorem tn_e_ba_ab (d0 d1 d2 d3 d4 d5 d6 d7 d8 d9 : Nat) : ((⟨#[123, 125, 97, 98]⟩ : Str) == (⟨#[98, 97]⟩ : Str) || Txt.slice (⟨#[123, 125, 97, 98]⟩ : Str) (some (-3)) none == (⟨#[125, 98, 97]⟩ : Str)) = false := by rw [sl4_3]; simp
theorem tn_e_ba_ba (d0 d1 d2 d3 d4 d5 d6 d7 d8 d9 : Nat) : ((⟨#[123, 125, 98, 97]⟩ : Str) == (⟨#[98, 97]⟩ : Str) || Txt.slice (⟨#[123, 125, 98, 97]⟩ : Str) (some (-3)) none == (⟨#[125, 98, 97]⟩ : Str)) = true := by rw [sl4_3]; simp
theorem tn_e_ba_n (d0 d1 d2 d3 d4 d5 d6 d7 d8 d9 : Nat) : ((⟨#[123, 125]⟩ : Str) == (⟨#[98, 97]⟩ : Str) || Txt.slice (⟨#[123, 125]⟩ : Str) (some (-3)) none == (⟨#[125, 98, 97]⟩ : Str)) = false := by rw [sl2_3]; simp
theorem tn_e_n_a (d0 d1 d2 d3 d4 d5 d6 d7 d8 d9 : Nat) : ((⟨#[123, 125, 97]⟩ : Str) == (⟨#[]⟩ : Str) || Txt.slice (⟨#[123, 125, 97]⟩ : Str) (some (-1)) none == (⟨#[125]⟩ : Str)) = false := by rw [sl3_1]; simp
theorem tn_e_n_b (d0 d1 d2 d3 d4 d5 d6 d7 d8 d9 : Nat) : ((⟨#[123, 125, 98]⟩ : Str) == (⟨#[]⟩ : Str) || Txt.slice (⟨#[123, 125, 98]⟩ : Str) (some (-1)) none == (⟨#[125]⟩ : Str)) = false := by rw [sl3_1]; simp
theorem tn_e_n_ab (d0 d1 d2 d3 d4 d5 d6 d7 d8 d9 : Nat) : ((⟨#[123, 125, 97, 98]⟩ : Str) == (⟨#[]⟩ : Str) || Txt.slice (⟨#[123, 125, 97, 98]⟩ : Str) (some (-1)) none == (⟨#[125]⟩ : Str)) = false := by rw [sl4_1]; simp
theorem tn_e_n_ba (d0 d1 d2 d3 d4 d5 d6 d7 d8 d9 : Nat) : ((⟨#[123, 125, 98, 97]⟩ : Str) == (⟨#[]⟩ : Str) || Txt.slice (⟨#[123, 125, 98, 97]⟩ : Str) (some (-1)) none == (⟨#[125]⟩ : Str)) = false := by rw [sl4_1]; simp
theorem tn_e_n_n (d0 d1 d2 d3 d4 d5 d6 d7 d8 d9 : Nat) : ((⟨#[123, 125]⟩ : Str) == (⟨#[]⟩ : Str) || Txt.slice (⟨#[123, 125]⟩ : Str) (some (-1)) none == (⟨#[125]⟩ : Str)) = true := by rw [sl2_1]; simp
set_option maxHeartbeats 4000000 in
theorem T_N {md : Int} (hd : 0 ≤ md) (hd' : md < 65536) (x : Int) {wd : Str} (hw : Five wd) : tagTst (tstOf (patN wd)) (tagOf (shapeOf x) md (nmOf x)) = (nmOf x == wd && [Str.ofString "rights", Str.ofString "alone", Str.ofString "empty"].any (· == shapeOf x)) := by
  refine by_G fun G_ back_ => ?_
  obtain ⟨d0, d1, d2, d3, d4, d5, d6, d7, d8, d9, ed, _, h7, h8, h9⟩ := fm_codes hd hd'
  refine back_ ?_
  clear back_ G_
  rcases shape_five x with hs | hs | hs | hs | hs
  · rw [hs, tag_r, ed, sb1, sb2, show ([Str.ofString "rights", Str.ofString "alone", Str.ofString "empty"].any (· == Str.ofString "rights")) = true from by decide]
    rcases hw with rfl | rfl | rfl | rfl | rfl
    · rw [tstN_a, tt_some]
      rcases nm_five x with e | e | e | e | e <;> rw [e]
      · exact (tn_r_a_a d0 d1 d2 d3 d4 d5 d6 d7 d8 d9).trans (by decide)
      · exact (tn_r_a_b d0 d1 d2 d3 d4 d5 d6 d7 d8 d9).trans (by decide)
      · exact (tn_r_a_ab d0 d1 d2 d3 d4 d5 d6 d7 d8 d9).trans (by decide)
      · exact (tn_r_a_ba d0 d1 d2 d3 d4 d5 d6 d7 d8 d9).trans (by decide)
      · exact (tn_r_a_n d0 d1 d2 d3 d4 d5 d6 d7 d8 d9).trans (by decide)
    · rw [tstN_b, tt_some]
      rcases nm_five x with e | e | e | e | e <;> rw [e]
      · exact (tn_r_b_a d0 d1 d2 d3 d4 d5 d6 d7 d8 d9).trans (by decide)
      · exact (tn_r_b_b d0 d1 d2 d3 d4 d5 d6 d7 d8 d9).trans (by decide)
      · exact (tn_r_b_ab d0 d1 d2 d3 d4 d5 d6 d7 d8 d9).trans (by decide)
      · exact (tn_r_b_ba d0 d1 d2 d3 d4 d5 d6 d7 d8 d9).trans (by decide)
      · exact (tn_r_b_n d0 d1 d2 d3 d4 d5 d6 d7 d8 d9).trans (by decide)
    · rw [tstN_ab, tt_some]
      rcases nm_five x with e | e | e | e | e <;> rw [e]
      · exact (tn_r_ab_a d0 d1 d2 d3 d4 d5 d6 d7 d8 d9).trans (by decide)
      · exact (tn_r_ab_b d0 d1 d2 d3 d4 d5 d6 d7 d8 d9).trans (by decide)
      · exact (tn_r_ab_ab d0 d1 d2 d3 d4 d5 d6 d7 d8 d9).trans (by decide)
      · exact (tn_r_ab_ba d0 d1 d2 d3 d4 d5 d6 d7 d8 d9).trans (by decide)
      · exact (tn_r_ab_n d0 d1 d2 d3 d4 d5 d6 d7 d8 d9).trans (by decide)
    · rw [tstN_ba, tt_some]
      rcases nm_five x with e | e | e | e | e <;> rw [e]
      · exact (tn_r_ba_a d0 d1 d2 d3 d4 d5 d6 d7 d8 d9).trans (by decide)
      · exact (tn_r_ba_b d0 d1 d2 d3 d4 d5 d6 d7 d8 d9).trans (by decide)
      · exact (tn_r_ba_ab d0 d1 d2 d3 d4 d5 d6 d7 d8 d9).trans (by decide)
      · exact (tn_r_ba_ba d0 d1 d2 d3 d4 d5 d6 d7 d8 d9).trans (by decide)
      · exact (tn_r_ba_n d0 d1 d2 d3 d4 d5 d6 d7 d8 d9).trans (by decide)
    · rw [tstN_n, tt_some]
      rcases nm_five x with e | e | e | e | e <;> rw [e]
      · exact (tn_r_n_a d0 d1 d2 d3 d4 d5 d6 d7 d8 d9).trans (by decide)
      · exact (tn_r_n_b d0 d1 d2 d3 d4 d5 d6 d7 d8 d9).trans (by decide)
      · exact (tn_r_n_ab d0 d1 d2 d3 d4 d5 d6 d7 d8 d9).trans (by decide)
      · exact (tn_r_n_ba d0 d1 d2 d3 d4 d5 d6 d7 d8 d9).trans (by decide)
      · exact (tn_r_n_n d0 d1 d2 d3 d4 d5 d6 d7 d8 d9).trans (by decide)
  · rw [hs, tag_a, show ([Str.ofString "rights", Str.ofString "alone", Str.ofString "empty"].any (· == Str.ofString "alone")) = true from by decide]
    rcases hw with rfl | rfl | rfl | rfl | rfl
    · rw [tstN_a, tt_some]
      rcases nm_four hs with e | e | e | e <;> rw [e]
      · exact (tn_a_a_a d0 d1 d2 d3 d4 d5 d6 d7 d8 d9).trans (by decide)
      · exact (tn_a_a_b d0 d1 d2 d3 d4 d5 d6 d7 d8 d9).trans (by decide)
      · exact (tn_a_a_ab d0 d1 d2 d3 d4 d5 d6 d7 d8 d9).trans (by decide)
      · exact (tn_a_a_ba d0 d1 d2 d3 d4 d5 d6 d7 d8 d9).trans (by decide)
    · rw [tstN_b, tt_some]
      rcases nm_four hs with e | e | e | e <;> rw [e]
      · exact (tn_a_b_a d0 d1 d2 d3 d4 d5 d6 d7 d8 d9).trans (by decide)
      · exact (tn_a_b_b d0 d1 d2 d3 d4 d5 d6 d7 d8 d9).trans (by decide)
      · exact (tn_a_b_ab d0 d1 d2 d3 d4 d5 d6 d7 d8 d9).trans (by decide)
      · exact (tn_a_b_ba d0 d1 d2 d3 d4 d5 d6 d7 d8 d9).trans (by decide)
    · rw [tstN_ab, tt_some]
      rcases nm_four hs with e | e | e | e <;> rw [e]
      · exact (tn_a_ab_a d0 d1 d2 d3 d4 d5 d6 d7 d8 d9).trans (by decide)
      · exact (tn_a_ab_b d0 d1 d2 d3 d4 d5 d6 d7 d8 d9).trans (by decide)
      · exact (tn_a_ab_ab d0 d1 d2 d3 d4 d5 d6 d7 d8 d9).trans (by decide)
      · exact (tn_a_ab_ba d0 d1 d2 d3 d4 d5 d6 d7 d8 d9).trans (by decide)
    · rw [tstN_ba, tt_some]
      rcases nm_four hs with e | e | e | e <;> rw [e]
      · exact (tn_a_ba_a d0 d1 d2 d3 d4 d5 d6 d7 d8 d9).trans (by decide)
      · exact (tn_a_ba_b d0 d1 d2 d3 d4 d5 d6 d7 d8 d9).trans (by decide)
      · exact (tn_a_ba_ab d0 d1 d2 d3 d4 d5 d6 d7 d8 d9).trans (by decide)
      · exact (tn_a_ba_ba d0 d1 d2 d3 d4 d5 d6 d7 d8 d9).trans (by decide)
    · rw [tstN_n, tt_some]
      rcases nm_four hs with e | e | e | e <;> rw [e]
      · exact (tn_a_n_a d0 d1 d2 d3 d4 d5 d6 d7 d8 d9).trans (by decide)
      · exact (tn_a_n_b d0 d1 d2 d3 d4 d5 d6 d7 d8 d9).trans (by decide)
      · exact (tn_a_n_ab d0 d1 d2 d3 d4 d5 d6 d7 d8 d9).trans (by decide)
      · exact (tn_a_n_ba d0 d1 d2 d3 d4 d5 d6 d7 d8 d9).trans (by decide)
  · rw [hs, tag_n]
    rcases hw with rfl | rfl | rfl | rfl | rfl
    · rw [tstN_a, tt_none, show ([Str.ofString "rights", Str.ofString "alone", Str.ofString "empty"].any (· == Str.ofString "number")) = false from by decide, Bool.and_false]
    · rw [tstN_b, tt_none, show ([Str.ofString "rights", Str.ofString "alone", Str.ofString "empty"].any (· == Str.ofString "number")) = false from by decide, Bool.and_false]
    · rw [tstN_ab, tt_none, show ([Str.ofString "rights", Str.ofString "alone", Str.ofString "empty"].any (· == Str.ofString "number")) = false from by decide, Bool.and_false]
    · rw [tstN_ba, tt_none, show ([Str.ofString "rights", Str.ofString "alone", Str.ofString "empty"].any (· == Str.ofString "number")) = false from by decide, Bool.and_false]
    · rw [tstN_n, tt_none, show ([Str.ofString "rights", Str.ofString "alone", Str.ofString "empty"].any (· == Str.ofString "number")) = false from by decide, Bool.and_false]
  · rw [hs, tag_o, ed, sb1, show ([Str.ofString "rights", Str.ofString "alone", Str.ofString "empty"].any (· == Str.ofString "open")) = false from by decide]
    rcases hw with rfl | rfl | rfl | rfl | rfl
    · rw [tstN_a, tt_some]
      rcases nm_five x with e | e | e | e | e <;> rw [e]
      · exact (tn_o_a_a d0 d1 d2 d3 d4 d5 d6 d7 d8 d9 h7 h8 h9).trans (by decide)
      · exact (tn_o_a_b d0 d1 d2 d3 d4 d5 d6 d7 d8 d9 h7 h8 h9).trans (by decide)
      · exact (tn_o_a_ab d0 d1 d2 d3 d4 d5 d6 d7 d8 d9 h7 h8 h9).trans (by decide)
      · exact (tn_o_a_ba d0 d1 d2 d3 d4 d5 d6 d7 d8 d9 h7 h8 h9).trans (by decide)
      · exact (tn_o_a_n d0 d1 d2 d3 d4 d5 d6 d7 d8 d9 h7 h8 h9).trans (by decide)
    · rw [tstN_b, tt_some]
      rcases nm_five x with e | e | e | e | e <;> rw [e]
      · exact (tn_o_b_a d0 d1 d2 d3 d4 d5 d6 d7 d8 d9 h7 h8 h9).trans (by decide)
      · exact (tn_o_b_b d0 d1 d2 d3 d4 d5 d6 d7 d8 d9 h7 h8 h9).trans (by decide)
      · exact (tn_o_b_ab d0 d1 d2 d3 d4 d5 d6 d7 d8 d9 h7 h8 h9).trans (by decide)
      · exact (tn_o_b_ba d0 d1 d2 d3 d4 d5 d6 d7 d8 d9 h7 h8 h9).trans (by decide)
      · exact (tn_o_b_n d0 d1 d2 d3 d4 d5 d6 d7 d8 d9 h7 h8 h9).trans (by decide)
    · rw [tstN_ab, tt_some]
      rcases nm_five x with e | e | e | e | e <;> rw [e]
      · exact (tn_o_ab_a d0 d1 d2 d3 d4 d5 d6 d7 d8 d9 h7 h8 h9).trans (by decide)
      · exact (tn_o_ab_b d0 d1 d2 d3 d4 d5 d6 d7 d8 d9 h7 h8 h9).trans (by decide)
      · exact (tn_o_ab_ab d0 d1 d2 d3 d4 d5 d6 d7 d8 d9 h7 h8 h9).trans (by decide)
      · exact (tn_o_ab_ba d0 d1 d2 d3 d4 d5 d6 d7 d8 d9 h7 h8 h9).trans (by decide)
      · exact (tn_o_ab_n d0 d1 d2 d3 d4 d5 d6 d7 d8 d9 h7 h8 h9).trans (by decide)
    · rw [tstN_ba, tt_some]
      rcases nm_five x with e | e | e | e | e <;> rw [e]
      · exact (tn_o_ba_a d0 d1 d2 d3 d4 d5 d6 d7 d8 d9 h7 h8 h9).trans (by decide)
      · exact (tn_o_ba_b d0 d1 d2 d3 d4 d5 d6 d7 d8 d9 h7 h8 h9).trans (by decide)
      · exact (tn_o_ba_ab d0 d1 d2 d3 d4 d5 d6 d7 d8 d9 h7 h8 h9).trans (by decide)
      · exact (tn_o_ba_ba d0 d1 d2 d3 d4 d5 d6 d7 d8 d9 h7 h8 h9).trans (by decide)
      · exact (tn_o_ba_n d0 d1 d2 d3 d4 d5 d6 d7 d8 d9 h7 h8 h9).trans (by decide)
    · rw [tstN_n, tt_some]
      rcases nm_five x with e | e | e | e | e <;> rw [e]
      · exact (tn_o_n_a d0 d1 d2 d3 d4 d5 d6 d7 d8 d9 h7 h8 h9).trans (by decide)
      · exact (tn_o_n_b d0 d1 d2 d3 d4 d5 d6 d7 d8 d9 h7 h8 h9).trans (by decide)
      · exact (tn_o_n_ab d0 d1 d2 d3 d4 d5 d6 d7 d8 d9 h7 h8 h9).trans (by decide)
      · exact (tn_o_n_ba d0 d1 d2 d3 d4 d5 d6 d7 d8 d9 h7 h8 h9).trans (by decide)
      · exact (tn_o_n_n d0 d1 d2 d3 d4 d5 d6 d7 d8 d9 h7 h8 h9).trans (by decide)
  · rw [hs, tag_e, sb3, show ([Str.ofString "rights", Str.ofString "alone", Str.ofString "empty"].any (· == Str.ofString "empty")) = true from by decide]
    rcases hw with rfl | rfl | rfl | rfl | rfl
    · rw [tstN_a, tt_some]
      rcases nm_five x with e | e | e | e | e <;> rw [e]
      · exact (tn_e_a_a d0 d1 d2 d3 d4 d5 d6 d7 d8 d9).trans (by decide)
      · exact (tn_e_a_b d0 d1 d2 d3 d4 d5 d6 d7 d8 d9).trans (by decide)
      · exact (tn_e_a_ab d0 d1 d2 d3 d4 d5 d6 d7 d8 d9).trans (by decide)
      · exact (tn_e_a_ba d0 d1 d2 d3 d4 d5 d6 d7 d8 d9).trans (by decide)
      · exact (tn_e_a_n d0 d1 d2 d3 d4 d5 d6 d7 d8 d9).trans (by decide)
    · rw [tstN_b, tt_some]
      rcases nm_five x with e | e | e | e | e <;> rw [e]
      · exact (tn_e_b_a d0 d1 d2 d3 d4 d5 d6 d7 d8 d9).trans (by decide)
      · exact (tn_e_b_b d0 d1 d2 d3 d4 d5 d6 d7 d8 d9).trans (by decide)
      · exact (tn_e_b_ab d0 d1 d2 d3 d4 d5 d6 d7 d8 d9).trans (by decide)
      · exact (tn_e_b_ba d0 d1 d2 d3 d4 d5 d6 d7 d8 d9).trans (by decide)
      · exact (tn_e_b_n d0 d1 d2 d3 d4 d5 d6 d7 d8 d9).trans (by decide)
    · rw [tstN_ab, tt_some]
      rcases nm_five x with e | e | e | e | e <;> rw [e]
      · exact (tn_e_ab_a d0 d1 d2 d3 d4 d5 d6 d7 d8 d9).trans (by decide)
      · exact (tn_e_ab_b d0 d1 d2 d3 d4 d5 d6 d7 d8 d9).trans (by decide)
      · exact (tn_e_ab_ab d0 d1 d2 d3 d4 d5 d6 d7 d8 d9).trans (by decide)
      · exact (tn_e_ab_ba d0 d1 d2 d3 d4 d5 d6 d7 d8 d9).trans (by decide)
      · exact (tn_e_ab_n d0 d1 d2 d3 d4 d5 d6 d7 d8 d9).trans (by decide)
    · rw [tstN_ba, tt_some]
      rcases nm_five x with e | e | e | e | e <;> rw [e]
      · exact (tn_e_ba_a d0 d1 d2 d3 d4 d5 d6 d7 d8 d9).trans (by decide)
      · exact (tn_e_ba_b d0 d1 d2 d3 d4 d5 d6 d7 d8 d9).trans (by decide)
      · exact (tn_e_ba_ab d0 d1 d2 d3 d4 d5 d6 d7 d8 d9).trans (by decide)
      · exact (tn_e_ba_ba d0 d1 d2 d3 d4 d5 d6 d7 d8 d9).trans (by decide)
      · exact (tn_e_ba_n d0 d1 d2 d3 d4 d5 d6 d7 d8 d9).trans (by decide)
    · rw [tstN_n, tt_some]
      rcases nm_five x with e | e | e | e | e <;> rw [e]
      · exact (tn_e_n_a d0 d1 d2 d3 d4 d5 d6 d7 d8 d9).trans (by decide)
      · exact (tn_e_n_b d0 d1 d2 d3 d4 d5 d6 d7 d8 d9).trans (by decide)
      · exact (tn_e_n_ab d0 d1 d2 d3 d4 d5 d6 d7 d8 d9).trans (by decide)
      · exact (tn_e_n_ba d0 d1 d2 d3 d4 d5 d6 d7 d8 d9).trans (by decide)
      · exact (tn_e_n_n d0 d1 d2 d3 d4 d5 d6 d7 d8 d9).trans (by decide)
end
-- PL7
section
theorem fmod_range (a : Int) : 0 ≤ a.fmod 65536 ∧ a.fmod 65536 < 65536 := ⟨Int.fmod_nonneg_of_pos a (by decide), Int.fmod_lt_of_pos a (by decide)⟩
theorem modeN_range (nums : List Int) (i : Int) : 0 ≤ modeN nums i ∧ modeN nums i < 65536 := fmod_range _
theorem mode_range {o q : Int} (ho : 0 ≤ o ∧ o < 65536) (hq : 0 ≤ q ∧ q < 65536) (x : Int) : 0 ≤ modeOf x o q ∧ modeOf x o q < 65536 := by
  unfold modeOf
  split
  · exact ho
  · split
    · exact hq
    · split
      · have h1 : 0 ≤ ((x.fdiv 5).fdiv 5).fmod 16 ∧ ((x.fdiv 5).fdiv 5).fmod 16 < 16 := ⟨Int.fmod_nonneg_of_pos _ (by decide), Int.fmod_lt_of_pos _ (by decide)⟩
        have h2 : 0 ≤ o.fmod 4096 ∧ o.fmod 4096 < 4096 := ⟨Int.fmod_nonneg_of_pos _ (by decide), Int.fmod_lt_of_pos _ (by decide)⟩
        omega
      · exact ho
section
variable {ns : List Int} {o q m k x : Int} {wd : Str}
theorem at_k (h : k ∈ rangeKs 0 ns.length) : ∃ x, ns[k.toNat]? = some x := ⟨_, List.getElem?_eq_getElem (rg_mem h).2⟩
theorem thru_at (hx : ns[k.toNat]? = some x) (tag : Str) : thru ns o q tag k = tagTst (tstOf tag) (tagOf (shapeOf x) (modeOf x o q) (nmOf x)) := by
  unfold thru
  rw [List.getD_eq_getElem?_getD, hx]
  rfl
theorem dueR_at (hx : ns[k.toNat]? = some x) : dueR ns o q m k = (rightsOf (shapeOf x) (modeOf x o q) == rightsOf (Str.ofString "rights") m) := by
  unfold dueR rightsL
  rw [List.getD_eq_getElem?_getD, List.getElem?_map, hx]
  rfl
theorem dueA_at (hx : ns[k.toNat]? = some x) : dueA ns k = (shapeOf x == Str.ofString "alone") := by
  unfold dueA
  rw [List.getD_eq_getElem?_getD, List.getElem?_map, hx]
  rfl
theorem dueT_at (hx : ns[k.toNat]? = some x) : dueT ns k = (shapeOf x != Str.ofString "number") := by
  unfold dueT
  rw [List.getD_eq_getElem?_getD, List.getElem?_map, hx]
  rfl
theorem named_at (hx : ns[k.toNat]? = some x) : named ns wd k = (nmOf x == wd) := by
  unfold named
  rw [List.getD_eq_getElem?_getD, List.getElem?_map, hx]
  rfl
theorem dueN_at (hx : ns[k.toNat]? = some x) : dueN ns wd k = (nmOf x == wd && [Str.ofString "rights", Str.ofString "alone", Str.ofString "empty"].any (· == shapeOf x)) := by
  unfold dueN
  rw [List.getD_eq_getElem?_getD, List.getD_eq_getElem?_getD, List.getElem?_map, List.getElem?_map, hx]
  rfl
variable (ho : 0 ≤ o ∧ o < 65536) (hq : 0 ≤ q ∧ q < 65536)
include ho hq
theorem eR (hm : 0 ≤ m ∧ m < 65536) : ∀ k ∈ rangeKs 0 ns.length, thru ns o q (patR m) k = dueR ns o q m k := fun k hk => by
  obtain ⟨x, hx⟩ := at_k hk
  rw [thru_at hx, dueR_at hx]
  exact T_R hm.1 hm.2 (mode_range ho hq x).1 (mode_range ho hq x).2 x
theorem eA : ∀ k ∈ rangeKs 0 ns.length, thru ns o q (Str.ofString "{}*") k = dueA ns k := fun k hk => by
  obtain ⟨x, hx⟩ := at_k hk
  rw [thru_at hx, dueA_at hx]
  exact T_A (mode_range ho hq x).1 (mode_range ho hq x).2 x
theorem eN (hw : Five wd) : ∀ k ∈ rangeKs 0 ns.length, thru ns o q (patN wd) k = dueN ns wd k := fun k hk => by
  obtain ⟨x, hx⟩ := at_k hk
  rw [thru_at hx, dueN_at hx]
  exact T_N (mode_range ho hq x).1 (mode_range ho hq x).2 x hw
omit ho hq in
theorem eT : ∀ k ∈ rangeKs 0 ns.length, thru ns o q (Str.ofString "{*}*") k = dueT ns k := fun k hk => by
  obtain ⟨x, hx⟩ := at_k hk
  rw [thru_at hx, dueT_at hx]
  exact T_T _ x
omit ho hq in
theorem both_and (k : Int) (hk : k ∈ rangeKs 0 ns.length) : (dueN ns wd k && dueR ns o q m k) = (named ns wd k && dueR ns o q m k) := by
  obtain ⟨x, hx⟩ := at_k hk
  rw [dueN_at hx, named_at hx, dueR_at hx]
  rcases shape_five x with hs | hs | hs | hs | hs
  · rw [hs, show ([Str.ofString "rights", Str.ofString "alone", Str.ofString "empty"].any (· == Str.ofString "rights")) = true from by decide, Bool.and_true]
  · rw [hs, show (rightsOf (Str.ofString "alone") (modeOf x o q) == rightsOf (Str.ofString "rights") m) = false from rfl, Bool.and_false, Bool.and_false]
  · rw [hs, show (rightsOf (Str.ofString "number") (modeOf x o q) == rightsOf (Str.ofString "rights") m) = false from rfl, Bool.and_false, Bool.and_false]
  · rw [hs, show (rightsOf (Str.ofString "open") (modeOf x o q) == rightsOf (Str.ofString "rights") m) = false from rfl, Bool.and_false, Bool.and_false]
  · rw [hs, show (rightsOf (Str.ofString "empty") (modeOf x o q) == rightsOf (Str.ofString "rights") m) = false from rfl, Bool.and_false, Bool.and_false]
theorem loop_one (hw : Five wd) (hm : 0 ≤ m ∧ m < 65536) :
    ((rangeKs 0 ns.length).filter (thru ns o q (patR m))).filter (thru ns o q (patN wd)) = ((rangeKs 0 ns.length).filter (dueR ns o q m)).filter (named ns wd) ∧
    ((rangeKs 0 ns.length).filter (thru ns o q (patN wd))).filter (thru ns o q (patR m)) = ((rangeKs 0 ns.length).filter (dueR ns o q m)).filter (named ns wd) := by
  rw [List.filter_filter, List.filter_filter, List.filter_filter]
  constructor
  · refine List.filter_congr fun k hk => ?_
    rw [eR ho hq hm k hk, eN ho hq hw k hk]
    exact both_and k hk
  · refine List.filter_congr fun k hk => ?_
    rw [eR ho hq hm k hk, eN ho hq hw k hk, Bool.and_comm]
    exact both_and k hk
theorem plain (hw : Five wd) : PlainOK ns o q wd where
  ok := by
    obtain ⟨_, _, _, _, _, _, _, _, _, _, e1, _⟩ := fm_codes ho.1 ho.2
    obtain ⟨_, _, _, _, _, _, _, _, _, _, e2, _⟩ := fm_codes hq.1 hq.2
    intro x hx
    unfold patsOf at hx
    simp only [List.mem_cons, List.not_mem_nil, or_false] at hx
    rcases hx with rfl | rfl | rfl | rfl | rfl
    · rw [patR_is _ _ _ _ _ _ _ _ _ _ o e1]; exact okR _ _ _ _ _ _ _ _ _ _
    · rw [patR_is _ _ _ _ _ _ _ _ _ _ q e2]; exact okR _ _ _ _ _ _ _ _ _ _
    · exact okA
    · exact okN hw
    · exact okT
  found := by
    unfold patsOf duesOf
    simp only [List.map_cons, List.map_nil]
    rw [List.filter_congr (eR ho hq ho), List.filter_congr (eR ho hq hq), List.filter_congr (eA ho hq), List.filter_congr (eN ho hq hw), List.filter_congr eT]
  loop := by
    intro i tg htg hi
    rcases hi with rfl | rfl
    · cases htg
      exact loop_one ho hq hw ho
    · cases htg
      exact loop_one ho hq hw hq
  diff1 := diff1
  diff2 := diff2
  sub1 := fun xs ys x hx => List.mem_reverse.mp (diff_sub1 _ _ x hx)
  sub2 := fun xs ys x hx => diff_sub2 _ _ x hx
  str := fun k => by
    unfold nameAt
    rw [List.getD_eq_getElem?_getD, List.getElem?_map]
    cases ns[k.toNat]? with
    | none => decide +kernel
    | some x =>
      show PyData.strOk (nmOf x) = true
      rcases nm_five x with e | e | e | e | e <;> rw [e] <;> decide +kernel
end
theorem plain_law (nums : List Int) : PlainOK (numsOf nums) (modeN nums 0) (modeN nums 1) (nameOf (numsOf nums).sum) := plain (modeN_range nums 0) (modeN_range nums 1) (name_five _)
end
end Mine
theorem PySem.Challenge.cw_oh0023_01_holds : PySem.Challenge.rw_oh0023_01.Holds :=
  Mine.law0 Mine.plain_law
