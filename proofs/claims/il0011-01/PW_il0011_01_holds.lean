import PyProof.Rows.All
import Wide.All
import OpenK.AllK
import Wide.FinOn
import Lean
import PySem.Challenge.RW_il0011_01
set_option Elab.async false
set_option rowWalk.seconds 0
section
open PySem PySem.W PyProof.Rows
set_option maxRecDepth 100000
set_option maxHeartbeats 8000000
namespace Mine
set_option synthInstance.maxSize 1 in
open_top hd for PySem.Challenge.rw_il0011_01
end Mine
end
section
open PySem PySem.W PySem.Calls PyProof.Rows
set_option maxRecDepth 100000
namespace Mine
theorem enter {prog : Program} {w : World} {A : Around} {s : Shared} {K : Frag} {p : Program} {loose : List Str} {mean : ExcName → Option Value} {mg mb : Str → Option Value}
    {R : Result → Shared → Prop} {name qual : Str} {params : Arguments} {body : List Stmt} {scope : Scope} {dV kV doc pm cdv ct oc : Value} {an od : Option Addr} {osl : Array (Option Value)} {f : Addr} {args : Args} (binds : List (Str × Value))
    (X : K.In s.heap) (T : Top p loose mean mg mb s.heap) (hroom : A.depth < recursionLimit)
    (ho : K.lookup f = some ⟨oc, od, .func (fnOf name qual params body scope dV kV doc pm an cdv ct), osl⟩) (hcd : codeIn K cdv qual = true)
    (hbind : BindsTo s (fnOf name qual params body scope dV kV doc pm an cdv ct) args binds) (hloc : ∀ y ∈ binds, scope.names.lookup y.1 = some .local)
    (h : ∀ h₁, Fr s.heap s.heap.objs.size h₁ (fun y => binds.reverse.lookup y) →
      wpAny (model prog w) (A.deeper (envOf qual scope s.heap.objs.size f cdv)) (execs body (envOf qual scope s.heap.objs.size f cdv))
        (fun fl s' => R (.ok (.ret (match fl with | .ret v => v | _ => .none))) s') (fun _ _ => False)
        { s with heap := h₁, toks := s.toks + binds.length })
    (hco : scope.isCoroutine = false) (hgen : scope.isGenerator = false) (hk : scope.kind = .function)
    (hcell : ∀ x ∈ scope.names, x.2 ≠ .cell) : codeAny (model prog w) A (.call (.ref f) args) R s := by
  refine codeAny_call_def (fd := fnOf name qual params body scope dV kV doc pm an cdv ct) (body := body) (binds := binds) hroom (X _ _ ho) rfl T.nolimit (codeRec_of X hcd) rfl hbind hcell hloc (fun h₁ hns hk₁ => ?_) hco hgen hk
  exact wpAny_mono (h h₁ ⟨hns, hk₁, Nat.le_refl _⟩) (fun _ _ x => x) (fun _ _ x => x.elim)
abbrev prg : Program := PySem.Challenge.rw_il0011_01.row.prog
abbrev Ar (dp un : Nat) (fr : Option (List Env)) (gd : Option (List Code)) : Around := { handled := none, depth := dp, frames := fr, guards := gd, units := un }
abbrev KT (w : World) (loose : List Str) (mean : ExcName → Option Value) (mg mb : Str → Option Value) (h : Heap) : Prop := (hd.heap_39 w.params).In h ∧ Top hd.view_39 loose mean mg mb h
theorem KT.keeps {w : World} {loose : List Str} {mean : ExcName → Option Value} {mg mb : Str → Option Value} {h h' : Heap} (x : KT w loose mean mg mb h) (k : ∀ b o, h.get? b = some o → h'.get? b = some o) : KT w loose mean mg mb h' := ⟨x.1.keeps k, x.2.keeps k⟩
theorem ite_yes {c : Prop} [Decidable c] {a b : Prop} (hc : c) (h : a) : if c then a else b := by rw [if_pos hc]; exact h
theorem ite_no {c : Prop} [Decidable c] {a b : Prop} (hc : ¬ c) (h : b) : if c then a else b := by rw [if_neg hc]; exact h
theorem nof {b : Bool} (h : b = false) : ¬ b = true := by rw [h]; exact Bool.false_ne_true
theorem bneOf {a b : Str} (h : (a == b) = false) : (a != b) = true := by rw [bne, h]; rfl
theorem noLen {n : Nat} (h : 0 < n) : ¬ (!((n : Int) != 0)) = true := by simp; omega
end Mine
end
section
open PySem PySem.W PySem.Calls PyProof.Rows
set_option maxRecDepth 100000
namespace Mine
section issub
variable {prog : Program} {w : World} {A : Around} {E : Value → Shared → Prop} {s : Shared}
theorem kind_isn : builtinKind "issubclass.nested" = none := by decide +kernel
theorem plain_isn : plainId "issubclass.nested" = true := by decide +kernel
theorem args_isn (a b c : Value) : argsOk "issubclass.nested" ⟨[a, b, c], []⟩ := by unfold argsOk; kernel_rfl
theorem entry_isn : entryFor table "issubclass.nested" = some Builtin.«issubclass.nested» := entryFor_of_tree (by kernel_rfl)
theorem kind_isc : builtinKind "issubclass" = none := by decide +kernel
theorem plain_isc : plainId "issubclass" = true := by decide +kernel
theorem args_isc (a b : Value) : argsOk "issubclass" ⟨[a, b], []⟩ := by unfold argsOk; kernel_rfl
theorem entry_isc : entryFor table "issubclass" = some Builtin.«issubclass» := entryFor_of_tree (by kernel_rfl)
theorem sub_ss : isSubtype (.type "str") (.type "str") = pure true := by rw [isSubtype_type]; kernel_rfl
theorem ty_str : typeOf (.type "str") = pure (.type "type") := by kernel_rfl
theorem isty_str : isType (.type "str") = pure true := rfl
theorem code_fn {id : String} {b : Builtin} {args : List Value} {R : Result → Shared → Prop} (hk : builtinKind id = none) (hp : plainId id = true)
    (hb : entryFor table id = some b) (ha : argsOk id ⟨args, []⟩)
    (hc : wpAny (model prog w) A.in1 (b ⟨args, []⟩) (fun fin s' => ∃ v, fin = .done (.ret v) ∧ R (.ok (.ret v)) s') (fun e s' => R (.error e) s') s) : codeAny (model prog w) A (.call (.builtin id) ⟨args, []⟩) R s := by
  refine codeAny_call_builtin hp hb ?_
  have hfin := wpAny_mono hc (Q' := fun fin s' => match fin with
      | .done f => R (.ok f) s'
      | .again c' => c'.quiet = true ∧ codeAny (model prog w) A c' R s')
    (fun fin s' h' => by obtain ⟨v, rfl, hv⟩ := h'; exact hv) fun _ _ h' => h'
  simp only [checkBuiltinCall, hk]
  cases hsig : Manifest.signature? id with
  | none => exact wpAny_pure hfin
  | some sig =>
    simp only [argsOk, hsig] at ha
    have h2 : Bind.checkArgs id sig ⟨args, []⟩ = pure () := ha
    show wpAny _ _ (Bind.checkArgs id sig ⟨args, []⟩) _ _ s
    rw [h2]; exact wpAny_pure hfin
theorem nested_ss {t : Tok} {dep : Int} {Q : Fin → Shared → Prop} (h : Q (.done (.ret (.bool true))) s) : wpAny (model prog w) A (Builtin.«issubclass.nested» ⟨[.type "str", .type "str", .int dep t], []⟩) Q E s := by
  have f1 := ty_str
  have f3 := sub_ss
  unfold Builtin.«issubclass.nested»
  show wpAny _ _ (typeOf (.type "str") >>= _) _ _ _
  rw [f1]
  refine wpAny_bind (wpAny_pure ?_)
  rw [if_pos (by decide)]
  k_delta "plainIsSubclass"
  refine wpAny_bind (wpAny_bind ?_)
  refine wpAny_bind (wpAny_pure (wpAny_bind (wpAny_pure ?_)))
  refine wpAny_pure (a := true) ?_
  refine wpAny_bind (wpAny_of_eq isty_str ?_)
  rw [if_pos (by rfl), f3]
  exact wpAny_pure (wpAny_pure h)
theorem nested_tuple {tp : Addr} {t : Tok} {Q : Fin → Shared → Prop} (htp : s.heap.get? tp = some { cls := .type "tuple", data := .seq #[.type "str", .type "bytes"] })
    (h : ∀ tk, Q (.done (.ret (.bool true))) { s with toks := tk }) : wpAny (model prog w) A (Builtin.«issubclass.nested» ⟨[.type "str", .ref tp, .int 0 t], []⟩) Q E s := by
  obtain ⟨hh, g, d, tt, os⟩ := s
  have hT2 : (⟨hh, g, d, tt, os⟩ : Shared).TypeIs (.ref tp) "tuple" := ⟨_, htp, rfl⟩
  have f1 := PySem.F.isi_sub_tuple
  unfold Builtin.«issubclass.nested»
  repeat (any_goals (first | assumption | wp_step))
  refine code_fn kind_isn plain_isn entry_isn (args_isn _ _ _) (nested_ss ⟨_, rfl, ?_⟩)
  exact wpAny_bind (wpAny_pure (wpAny_bind (wpAny_pure (wpAny_pure (wpAny_pure (wpAny_pure (h tt)))))))
theorem call_issub {tp : Addr} {Q : Value → Shared → Prop} (htp : s.heap.get? tp = some { cls := .type "tuple", data := .seq #[.type "str", .type "bytes"] })
    (h : ∀ tk, Q (.bool true) { s with toks := tk }) : wpAny (model prog w) A (call (.builtin "issubclass") [.type "str", .ref tp]) Q E s := by
  refine call_function_meets kind_isc plain_isc entry_isc (args_isc _ _) (S := fun _ R s => s.heap.get? tp = some { cls := .type "tuple", data := .seq #[.type "str", .type "bytes"] } ∧ ∀ tk, R (.ok (.ret (.bool true))) { s with toks := tk }) ?_ ⟨htp, h⟩
  intro prog w A R s ⟨h1, h2⟩
  obtain ⟨hh, g, d, tt, os⟩ := s
  unfold Builtin.«issubclass»
  repeat (any_goals (first | assumption | wp_step))
  refine ⟨Code.quiet_builtin _ (by decide +kernel), codeAny_builtin entry_isn ?_⟩
  rw [Around.under_plain (show (Code.builtin "issubclass.nested" ⟨[.type "str", .ref tp, rawInt 0], []⟩).weight = 0 from rfl) rfl]
  exact nested_tuple h1 h2
end issub
end Mine
end
section
open PySem PySem.W PySem.Calls PyProof.Rows
set_option maxRecDepth 100000
namespace Mine
theorem offM2 : True := by
  w_top off
  exact True.intro
local macro_rules | `(tactic| walk_at "call builtin:issubclass") => `(tactic| ((with_reducible rename News _ _ _ _ => NR); refine call_issub (NR.get (by k_mem)) ?_; intro _; clear NR))
section
variable {w : World} {dp un : Nat} {fr : Option (List Env)} {gd : Option (List Code)} {s : Shared} {loose : List Str} {mean : ExcName → Option Value} {mg mb : Str → Option Value} {R : Result → Shared → Prop}
set_option maxHeartbeats 1000000
theorem cps_append (x y : Str) : (x ++ y).cps = x.cps ++ y.cps := rfl
theorem shelf_eq (x : Str) : Txt.slice (x ++ Str.ofString "/") none (some (-1)) = x := by
  rw [slice_to_neg (by decide)]
  have hl : (x ++ Str.ofString "/").length = x.length + 1 := by
    show (x.cps ++ (Str.ofString "/").cps).size = x.cps.size + 1
    rw [Array.size_append]; rfl
  have e : max 0 (((x ++ Str.ofString "/").length : Int) + -1) = (x.length : Int) := by rw [hl]; omega
  rw [e]
  have := slice_closes_to (x := x ++ Str.ofString "/") (j := (x.length : Int)) ⟨by omega, by
    show (x.cps.size : Int) ≤ ((x.cps ++ (Str.ofString "/").cps).toList.length : Int)
    rw [Array.length_toList, Array.size_append]; omega⟩
  rw [eq_of_beq this]
  show (⟨_⟩ : Str) = x
  obtain ⟨⟨l⟩⟩ := x
  show (⟨_⟩ : Str) = ⟨⟨l⟩⟩
  congr 1
  show (((⟨l⟩ ++ (Str.ofString "/").cps : Array Nat).toList.drop (0 : Int).toNat).take (((Str.mk ⟨l⟩).length : Int) - 0).toNat).toArray = ⟨l⟩
  have h2 : (((Str.mk ⟨l⟩).length : Int) - 0).toNat = l.length := by show ((l.length : Int) - 0).toNat = _; omega
  rw [h2, Array.toList_append]
  simp
theorem shelf (x : Str) (t : Tok) (G : KT w loose mean mg mb s.heap) (hdp : dp < 900) (hu : un < 200) (hx : x.length ≤ 100)
    (hR : ∀ t' h' tk, (∀ b o, s.heap.get? b = some o → h'.get? b = some o) → R (.ok (.ret (.str x t'))) { s with heap := h', toks := tk }) :
    codeAny (model PySem.Challenge.rw_il0011_01.row.prog w) (Ar dp un fr gd) (.call (.ref 115) ⟨[.str x t], []⟩) R s := by
  obtain ⟨X, T⟩ := G
  revert X; k_fill; intro X
  refine' enter (K := hd.heap_39 w.params) [(Str.ofString "s", .str x t)] X T ?kd ?k6 ?k7 ?k9 ?kB ?_ ?c2 ?c3 ?c4 ?c5
  (((case k6 => k_is); (case kd => (simp only [recursionLimit] at *; omega)); (case k7 => k_is); (case k9 => exact BindsTo.of_eq rfl); (case c5 => decide); (case kB => exact locs rfl); (case c2 => exact rfl); (case c3 => exact rfl); (case c4 => exact rfl)))
  intro h₁ F
  have N : News s.heap s.heap.objs.size h₁ [] := News.nil
  k_steps
  dsimp only
  rw [shelf_eq]
  exact hR _ _ _ (Fr.keep (by assumption))
theorem kind_str (n x : Str) (t u : Tok) (G : KT w loose mean mg mb s.heap) (hdp : dp < 900) (hu : un < 200)
    (hR : ∀ t' h' tk, (∀ b o, s.heap.get? b = some o → h'.get? b = some o) → R (.ok (.ret (.str (Str.ofString "") t'))) { s with heap := h', toks := tk }) :
    codeAny (model PySem.Challenge.rw_il0011_01.row.prog w) (Ar dp un fr gd) (.call (.ref 101) ⟨[.str n t, .str x u], []⟩) R s := by
  obtain ⟨X, T⟩ := G
  revert X; k_fill; intro X
  refine' enter (K := hd.heap_39 w.params) [(Str.ofString "name", .str n t), (Str.ofString "x", .str x u)] X T ?kd ?k6 ?k7 ?k9 ?kB ?_ ?c2 ?c3 ?c4 ?c5
  (((case k6 => k_is); (case kd => (simp only [recursionLimit] at *; omega)); (case k7 => k_is); (case k9 => exact BindsTo.of_eq rfl); (case c5 => decide); (case kB => exact locs rfl); (case c2 => exact rfl); (case c3 => exact rfl); (case c4 => exact rfl)))
  intro h₁ F
  have N : News s.heap s.heap.objs.size h₁ [] := News.nil
  k_steps
  dsimp only
  exact hR _ _ _ (Fr.keep (by assumption))
theorem fspath_str (x : Str) (t : Tok) (G : KT w loose mean mg mb s.heap) (hdp : dp < 900) (hu : un < 200)
    (hR : ∀ h' tk, (∀ b o, s.heap.get? b = some o → h'.get? b = some o) → R (.ok (.ret (.str x t))) { s with heap := h', toks := tk }) :
    codeAny (model PySem.Challenge.rw_il0011_01.row.prog w) (Ar dp un fr gd) (.call (.ref 94) ⟨[.str x t], []⟩) R s := by
  obtain ⟨X, T⟩ := G
  revert X; k_fill; intro X
  refine' enter (K := hd.heap_39 w.params) [(Str.ofString "path", .str x t)] X T ?kd ?k6 ?k7 ?k9 ?kB ?_ ?c2 ?c3 ?c4 ?c5
  (((case k6 => k_is); (case kd => (simp only [recursionLimit] at *; omega)); (case k7 => k_is); (case k9 => exact BindsTo.of_eq rfl); (case c5 => decide); (case kB => exact locs rfl); (case c2 => exact rfl); (case c3 => exact rfl); (case c4 => exact rfl)))
  intro h₁ F
  have N : News s.heap s.heap.objs.size h₁ [] := News.nil
  k_steps
  dsimp only
  exact hR _ _ (Fr.keep (by assumption))
theorem getsep_str (x : Str) (t : Tok) (G : KT w loose mean mg mb s.heap) (hdp : dp < 900) (hu : un < 200)
    (hR : ∀ t' h' tk, (∀ b o, s.heap.get? b = some o → h'.get? b = some o) → R (.ok (.ret (.str (Str.ofString "/") t'))) { s with heap := h', toks := tk }) :
    codeAny (model PySem.Challenge.rw_il0011_01.row.prog w) (Ar dp un fr gd) (.call (.ref 177) ⟨[.str x t], []⟩) R s := by
  obtain ⟨X, T⟩ := G
  revert X; k_fill; intro X
  refine' enter (K := hd.heap_39 w.params) [(Str.ofString "path", .str x t)] X T ?kd ?k6 ?k7 ?k9 ?kB ?_ ?c2 ?c3 ?c4 ?c5
  (((case k6 => k_is); (case kd => (simp only [recursionLimit] at *; omega)); (case k7 => k_is); (case k9 => exact BindsTo.of_eq rfl); (case c5 => decide); (case kB => exact locs rfl); (case c2 => exact rfl); (case c3 => exact rfl); (case c4 => exact rfl)))
  intro h₁ F
  have N : News s.heap s.heap.objs.size h₁ [] := News.nil
  k_steps
  dsimp only
  exact hR _ _ _ (Fr.keep (by assumption))
end
end Mine
end
section
open PySem PySem.W PySem.Calls PyProof.Rows
set_option maxRecDepth 100000
namespace Mine
theorem offM3 : True := by
  w_top off
  exact True.intro
local macro_rules | `(tactic| walk_at "pad") => `(tactic| skip)
section
variable {w : World} {dp un : Nat} {fr : Option (List Env)} {gd : Option (List Code)} {s : Shared} {loose : List Str} {mean : ExcName → Option Value} {mg mb : Str → Option Value} {R : Result → Shared → Prop}
  {Q E : Value → Shared → Prop} {h₀ : Heap} {L : Addr} {m : Str → Option Value} {news : List (Addr × Obj)}
set_option maxHeartbeats 1000000
theorem shelf_call {x : Str} {t : Tok} (F : Fr h₀ L s.heap m) (N : News h₀ L s.heap news) (X : (hd.heap_39 w.params).In h₀) (T : Top hd.view_39 loose mean mg mb h₀) (hdp : dp < 900) (hu : un < 200) (hx : x.length ≤ 100)
    (h : ∀ t' h' tk, Fr h₀ L h' m → News h₀ L h' news → Q (.str x t') { s with heap := h', toks := tk }) : wpAny (model PySem.Challenge.rw_il0011_01.row.prog w) (Ar dp un fr gd) (call (.ref 115) [.str x t]) Q E s :=
  wpAny_call (shelf x t ⟨X.keeps F.keep, T.keeps F.keep⟩ hdp hu hx fun t' h' tk k => h t' h' tk (F.after k) (N.grown k))
local macro_rules | `(tactic| walk_at "call ref") => `(tactic| ((with_reducible show wpAny _ _ (call (Value.ref 115) [Value.str _ _]) _ _ _); refine shelf_call (by k_asm) (by k_asm) (by k_asm) (by k_asm) (by (dsimp only [Around.deeper]; omega)) (by (dsimp only [Around.deeper]; omega)) (by assumption) ?_; intro t' h' tk F' N'))
theorem splitroot (x : Str) (t : Tok) (G : KT w loose mean mg mb s.heap) (hdp : dp < 890) (hu : un < 190) (hx : x.length ≤ 100) (hs : (Txt.slice x none (some 1) == Str.ofString "/") = false)
    (hR : ∀ D t1 t2 t' h' tk, (∀ b o, s.heap.get? b = some o → h'.get? b = some o) → s.heap.get? D = none → h'.get? D = some { cls := .type "tuple", data := .seq #[.str (Str.ofString "") t1, .str (Str.ofString "") t2, .str x t'] } → R (.ok (.ret (.ref D))) { s with heap := h', toks := tk }) :
    codeAny (model PySem.Challenge.rw_il0011_01.row.prog w) (Ar dp un fr gd) (.call (.ref 122) ⟨[.str x t], []⟩) R s := by
  obtain ⟨X, T⟩ := G
  revert X; k_fill; intro X
  refine' enter (K := hd.heap_39 w.params) [(Str.ofString "p", .str x t)] X T ?kd ?k6 ?k7 ?k9 ?kB ?_ ?c2 ?c3 ?c4 ?c5
  (((case k6 => k_is); (case kd => (simp only [recursionLimit] at *; omega)); (case k7 => k_is); (case k9 => exact BindsTo.of_eq rfl); (case c5 => decide); (case kB => exact locs rfl); (case c2 => exact rfl); (case c3 => exact rfl); (case c4 => exact rfl)))
  intro h₁ F
  have N : News s.heap s.heap.objs.size h₁ [] := News.nil
  (repeat' (first | (k_unfold; (try dsimp only)) | ((with_reducible show wpAny _ _ _ _ _ _); walk1) | (dsimp only; (with_reducible show wpAny _ _ _ _ _ _); walk1) | (refine And.intro (by k_in) ?_; (with_reducible show wpAny _ _ _ _ _ _))))
  rw [if_pos (by rw [bne, hs]; rfl)]
  (repeat' (first | (k_unfold; (try dsimp only)) | ((with_reducible show wpAny _ _ _ _ _ _); walk1) | (dsimp only; (with_reducible show wpAny _ _ _ _ _ _); walk1) | (refine And.intro (by k_in) ?_; (with_reducible show wpAny _ _ _ _ _ _))))
  (with_reducible rename Fr _ _ _ _ => FR); (with_reducible rename News _ _ _ _ => NR)
  exact hR _ _ _ _ _ _ FR.keep (NR.fresh (.head _)) (NR.get (.head _))
theorem splitroot_call {x : Str} {t : Tok} (F : Fr h₀ L s.heap m) (N : News h₀ L s.heap news) (X : (hd.heap_39 w.params).In h₀) (T : Top hd.view_39 loose mean mg mb h₀) (hdp : dp < 890) (hu : un < 190) (hx : x.length ≤ 100) (hs : (Txt.slice x none (some 1) == Str.ofString "/") = false)
    (h : ∀ D t1 t2 t' h' tk, Fr h₀ L h' m → News h₀ L h' ((D, { cls := .type "tuple", data := .seq #[.str (Str.ofString "") t1, .str (Str.ofString "") t2, .str x t'] }) :: news) → Q (.ref D) { s with heap := h', toks := tk }) : wpAny (model PySem.Challenge.rw_il0011_01.row.prog w) (Ar dp un fr gd) (call (.ref 122) [.str x t]) Q E s :=
  wpAny_call (splitroot x t ⟨X.keeps F.keep, T.keeps F.keep⟩ hdp hu hx hs fun D t1 t2 t' h' tk k hn hD => h D t1 t2 t' h' tk (F.after k) fun p hp => by
    rcases List.mem_cons.mp hp with rfl | hp
    · refine ⟨hD, fun e => ?_, ?_⟩
      · obtain ⟨oL, _, _, hL, _⟩ := F.ns
        dsimp only at e; rw [e, hL] at hn; cases hn
      · cases q : h₀.get? D with
        | none => rfl
        | some o => rw [F.keep _ _ q] at hn; cases hn
    · exact ⟨k _ _ (N p hp).1, (N p hp).2⟩)
end
end Mine
end
section
open PySem PySem.W PySem.Calls PyProof.Rows
set_option maxRecDepth 100000
namespace Mine
theorem offM5 : True := by
  w_top off
  exact True.intro
local macro_rules | `(tactic| walk_at "pad") => `(tactic| skip)
-- a call of a def from a frame with a ledger: what the ledger holds is the callee's ledger too
theorem enterC {prog : Program} {w : World} {A : Around} {s : Shared} {K : Frag} {p : Program} {loose : List Str} {mean : ExcName → Option Value} {mg mb : Str → Option Value} {h₀ : Heap} {L : Addr} {m : Str → Option Value} {news : List (Addr × Obj)}
    {R : Result → Shared → Prop} {name qual : Str} {params : Arguments} {body : List Stmt} {scope : Scope} {dV kV doc pm cdv ct oc : Value} {an od : Option Addr} {osl : Array (Option Value)} {f : Addr} {args : Args} (binds : List (Str × Value))
    (F : Fr h₀ L s.heap m) (N : News h₀ L s.heap news) (X : K.In h₀) (T : Top p loose mean mg mb h₀) (hroom : A.depth < recursionLimit)
    (ho : K.lookup f = some ⟨oc, od, .func (fnOf name qual params body scope dV kV doc pm an cdv ct), osl⟩) (hcd : codeIn K cdv qual = true)
    (hbind : BindsTo s (fnOf name qual params body scope dV kV doc pm an cdv ct) args binds) (hloc : ∀ y ∈ binds, scope.names.lookup y.1 = some .local)
    (h : ∀ g h₁, Fr g s.heap.objs.size h₁ (fun y => binds.reverse.lookup y) → News g s.heap.objs.size h₁ news → K.In g → Top p loose mean mg mb g → h₀.StaysIn g →
      wpAny (model prog w) (A.deeper (envOf qual scope s.heap.objs.size f cdv)) (execs body (envOf qual scope s.heap.objs.size f cdv))
        (fun fl s' => LeaveK h₀ L m g R (match fl with | .ret v => v | _ => .none) s') (fun _ _ => False)
        { s with heap := h₁, toks := s.toks + binds.length })
    (hco : scope.isCoroutine = false) (hgen : scope.isGenerator = false) (hk : scope.kind = .function)
    (hcell : ∀ x ∈ scope.names, x.2 ≠ .cell) : codeAny (model prog w) A (.call (.ref f) args) R s := by
  refine codeAny_call_def (fd := fnOf name qual params body scope dV kV doc pm an cdv ct) (body := body) (binds := binds) hroom ((X.keeps F.keep) _ _ ho) rfl (T.nolimit.keeps F.keep) (codeRec_of (X.keeps F.keep) hcd) rfl hbind hcell hloc (fun h₁ hns hk₁ => ?_) hco hgen hk
  have nm : ∀ b o, h₀.get? b = some o → b ∉ news.map (·.1) := fun b o e q => by
    obtain ⟨p, hp, rfl⟩ := List.mem_map.mp q
    rw [(N p hp).2.2] at e; cases e
  have st : h₀.StaysIn (hideAll s.heap (news.map (·.1))) := fun b o e => hideAll_get _ (F.keep b o e) (nm b o e)
  obtain ⟨oL, es, ep, hL, r⟩ := F.ns
  have nL : L ∉ news.map (·.1) := fun q => by
    obtain ⟨p, hp, e⟩ := List.mem_map.mp q
    exact (N p hp).2.1 e
  have hLg := hideAll_get (news.map (·.1)) hL nL
  refine wpAny_mono (h (hideAll s.heap (news.map (·.1))) h₁ ⟨hns, fun b o e => hk₁ b o (of_hideAll _ e), Nat.le_of_eq (hideAll_size _ _)⟩
    (fun p hp => ⟨hk₁ _ _ (N p hp).1, Nat.ne_of_lt (Heap.lt_size (N p hp).1), hideAll_none _ (List.mem_map_of_mem hp)⟩) (X.keeps fun b o e => st b o e) (T.keeps fun b o e => st b o e) st) (fun fl s' hl => ?_) fun _ _ y => y.elim
  obtain ⟨L', m', news', F', N', k⟩ := hl
  refine k ⟨⟨oL, es, ep, F'.keep L oL hLg, r⟩, fun b o e => F'.keep b o (st b o e), F.above⟩ fun p hp => ⟨(N' p hp).1, fun q => ?_, ?_⟩
  · have := (N' p hp).2.2; rw [q, hLg] at this; cases this
  · cases q : h₀.get? p.1 with
    | none => rfl
    | some o => have := (N' p hp).2.2; rw [st _ _ q] at this; cases this
section
variable {w : World} {dp un : Nat} {fr : Option (List Env)} {gd : Option (List Code)} {s : Shared} {loose : List Str} {mean : ExcName → Option Value} {mg mb : Str → Option Value} {R : Result → Shared → Prop}
  {Q E : Value → Shared → Prop} {h₀ : Heap} {L : Addr} {m : Str → Option Value} {news : List (Addr × Obj)}
set_option maxHeartbeats 1000000
theorem kind_call {n x : Str} {t u : Tok} (F : Fr h₀ L s.heap m) (N : News h₀ L s.heap news) (X : (hd.heap_39 w.params).In h₀) (T : Top hd.view_39 loose mean mg mb h₀) (hdp : dp < 900) (hu : un < 200)
    (h : ∀ t' h' tk, Fr h₀ L h' m → News h₀ L h' news → Q (.str (Str.ofString "") t') { s with heap := h', toks := tk }) : wpAny (model PySem.Challenge.rw_il0011_01.row.prog w) (Ar dp un fr gd) (call (.ref 101) [.str n t, .str x u]) Q E s :=
  wpAny_call (kind_str n x t u ⟨X.keeps F.keep, T.keeps F.keep⟩ hdp hu fun t' h' tk k => h t' h' tk (F.after k) (N.grown k))
local macro_rules | `(tactic| walk_at "call ref") => `(tactic| ((with_reducible show wpAny _ _ (call (Value.ref 101) [Value.str _ _, Value.str _ _]) _ _ _); refine kind_call (by k_asm) (by k_asm) (by k_asm) (by k_asm) (by (dsimp only [Around.deeper]; omega)) (by (dsimp only [Around.deeper]; omega)) ?_; intro t' h' tk F' N'))
theorem truthy_dict0 {prog : Program} {A : Around} {Q : Bool → Shared → Prop} {D : Addr} (N : News h₀ L s.heap news) (hD : (D, dictOf [] 0) ∈ news) (hDs : (D == sysModules) = false) (h : ∀ tk, Q false { s with toks := tk }) :
    wpAny (model prog w) A (truthy (.ref D)) Q E s :=
  wpAny_truthy_dict (knd := strKind prog w) (kvs := []) hDs ⟨dictOf [] 0, #[], 0, N.get hD, ⟨rfl, rfl, rfl⟩, rfl, (fun _ he => by simp at he), .nil, by simp⟩ (by decide) (h _)
local macro_rules | `(tactic| walk_at "truthy ref") => `(tactic| (refine truthy_dict0 (by k_asm) (by k_mem) (by with_reducible assumption) ?_; intro _))
theorem cpath_call {x n1 n2 n3 : Str} {t u1 u2 u3 : Tok} {C D : Addr} (hDs : (D == sysModules) = false) (hCs : (C == sysModules) = false) (F : Fr h₀ L s.heap m) (N : News h₀ L s.heap [(D, dictOf [] 0), (C, ({ cls := .type "tuple", data := .seq #[.str x t] } : Obj))]) (X : (hd.heap_39 w.params).In h₀) (T : Top hd.view_39 loose mean mg mb h₀) (hdp : dp < 890) (hu : un < 190)
    (h : ∀ h' tk, Fr h₀ L h' m → News h₀ L h' [(D, dictOf [] 0), (C, ({ cls := .type "tuple", data := .seq #[.str x t] } : Obj))] → Q (.str x t) { s with heap := h', toks := tk }) : wpAny (model PySem.Challenge.rw_il0011_01.row.prog w) (Ar dp un fr gd) (call (.ref 108) [.str n1 u1, .str n2 u2, .str n3 u3, .ref C, .ref D]) Q E s := by
  refine wpAny_call ?_
  revert X; k_fill; intro X
  refine' enterC (K := hd.heap_39 w.params) [(Str.ofString "name", .str n1 u1), (Str.ofString "cname", .str n2 u2), (Str.ofString "argname", .str n3 u3), (Str.ofString "args", .ref C), (Str.ofString "kwargs", .ref D)] F N X T ?kd ?k6 ?k7 ?k9 ?kB ?_ ?c2 ?c3 ?c4 ?c5
  (((case k6 => k_is); (case kd => (simp only [recursionLimit] at *; omega)); (case k7 => k_is); (case k9 => exact BindsTo.of_eq rfl); (case c5 => decide); (case kB => exact locs rfl); (case c2 => exact rfl); (case c3 => exact rfl); (case c4 => exact rfl)))
  intro g h₁ F' N' X' T' st
  (repeat' (first | (k_unfold; (try dsimp only)) | walk1 | (dsimp only; walk1)))
  (with_reducible rename Fr h₀ _ _ _ => FR); (with_reducible rename News h₀ _ _ _ => NR)
  exact h _ _ FR NR
end
end Mine
end
section
open PySem PySem.W PySem.Calls PyProof.Rows
set_option maxRecDepth 100000
namespace Mine
theorem offM6 : True := by
  w_top off
  exact True.intro
theorem enterN {prog : Program} {w : World} {A : Around} {s : Shared} {K : Frag} {p : Program} {loose : List Str} {mean : ExcName → Option Value} {mg mb : Str → Option Value}
    {R : Result → Shared → Prop} {name qual : Str} {params : Arguments} {body : List Stmt} {scope : Scope} {dV kV doc pm cdv ct oc : Value} {an od : Option Addr} {osl : Array (Option Value)} {f : Addr} {args : Args} (binds : List (Str × Value))
    (hp : Heap) (news : List (Addr × Obj)) (hpk : ∀ b o, s.heap.get? b = some o → hp.get? b = some o) (hpz : s.heap.objs.size ≤ hp.objs.size) (hpn : ∀ q ∈ news, hp.get? q.1 = some q.2 ∧ s.heap.get? q.1 = none)
    (X : K.In s.heap) (T : Top p loose mean mg mb s.heap) (hroom : A.depth < recursionLimit)
    (ho : K.lookup f = some ⟨oc, od, .func (fnOf name qual params body scope dV kV doc pm an cdv ct), osl⟩) (hcd : codeIn K cdv qual = true)
    (hbind : ∀ (M : Model) (A : Around) (E : Value → Shared → Prop) (Q : List (Str × Value) → Shared → Prop), Q binds { s with heap := hp } → wpAny M A (bindArgs (fnOf name qual params body scope dV kV doc pm an cdv ct) args) Q E s)
    (hloc : ∀ y ∈ binds, scope.names.lookup y.1 = some .local)
    (h : ∀ h₁, Fr s.heap hp.objs.size h₁ (fun y => binds.reverse.lookup y) → News s.heap hp.objs.size h₁ news →
      wpAny (model prog w) (A.deeper (envOf qual scope hp.objs.size f cdv)) (execs body (envOf qual scope hp.objs.size f cdv))
        (fun fl s' => R (.ok (.ret (match fl with | .ret v => v | _ => .none))) s') (fun _ _ => False)
        { s with heap := h₁, toks := s.toks + binds.length })
    (hco : scope.isCoroutine = false) (hgen : scope.isGenerator = false) (hk : scope.kind = .function)
    (hcell : ∀ x ∈ scope.names, x.2 ≠ .cell) : codeAny (model prog w) A (.call (.ref f) args) R s := by
  refine codeAny_call_function (fd := fnOf name qual params body scope dV kV doc pm an cdv ct) (body := body) hroom (X _ _ ho) rfl hco hgen rfl (codeRec_of X hcd) ?_
  refine hbind _ _ _ _ ?_
  refine wpAny_newFunctionEnv (s := { s with heap := hp }) hcell hloc (fun h₁ hns hsb => ⟨(T.nolimit.keeps hpk).fresh _ hsb, codeAny_func ?_⟩) hk
  have hk₁ : ∀ b o, hp.get? b = some o → h₁.get? b = some o := fun b o e => hsb.extBut b o (Nat.ne_of_lt (Heap.lt_size e)) (Heap.get?_push_of_some _ e)
  exact wpAny_mono (h h₁ ⟨hns, fun b o e => hk₁ b o (hpk b o e), hpz⟩ fun q hq => ⟨hk₁ _ _ (hpn q hq).1, Nat.ne_of_lt (Heap.lt_size (hpn q hq).1), (hpn q hq).2⟩) (fun _ _ x => x) (fun _ _ x => x.elim)
-- what _normpath makes of a path
def NormsTo (w : World) (loose : List Str) (mean : ExcName → Option Value) (mg mb : Str → Option Value) (x r : Str) : Prop :=
  ∀ (dp un : Nat) (fr : Option (List Env)) (gd : Option (List Code)) (s : Shared) (R : Result → Shared → Prop) (t : Tok), KT w loose mean mg mb s.heap → dp < 880 → un < 180 →
    (∀ t' h' tk, (∀ b o, s.heap.get? b = some o → h'.get? b = some o) → R (.ok (.ret (.str r t'))) { s with heap := h', toks := tk }) →
    codeAny (model PySem.Challenge.rw_il0011_01.row.prog w) (Ar dp un fr gd) (.call (.ref 129) ⟨[.str x t], []⟩) R s
section
variable {w : World} {dp un : Nat} {fr : Option (List Env)} {gd : Option (List Code)} {s : Shared} {loose : List Str} {mean : ExcName → Option Value} {mg mb : Str → Option Value} {R : Result → Shared → Prop}
  {Q E : Value → Shared → Prop} {h₀ : Heap} {L : Addr} {m : Str → Option Value} {news : List (Addr × Obj)}
set_option maxHeartbeats 1000000
theorem norms_call {x r : Str} {t : Tok} (F : Fr h₀ L s.heap m) (N : News h₀ L s.heap news) (X : (hd.heap_39 w.params).In h₀) (T : Top hd.view_39 loose mean mg mb h₀) (hdp : dp < 880) (hu : un < 180) (hn : NormsTo w loose mean mg mb x r)
    (h : ∀ t' h' tk, Fr h₀ L h' m → News h₀ L h' news → Q (.str r t') { s with heap := h', toks := tk }) : wpAny (model PySem.Challenge.rw_il0011_01.row.prog w) (Ar dp un fr gd) (call (.ref 129) [.str x t]) Q E s :=
  wpAny_call (hn _ _ _ _ _ _ _ ⟨X.keeps F.keep, T.keeps F.keep⟩ hdp hu fun t' h' tk k => h t' h' tk (F.after k) (N.grown k))
local macro_rules | `(tactic| walk_at "call ref") => `(tactic| ((with_reducible show wpAny _ _ (call (Value.ref 129) [Value.str _ _]) _ _ _); refine norms_call (by k_asm) (by k_asm) (by k_asm) (by k_asm) (by (dsimp only [Around.deeper]; omega)) (by (dsimp only [Around.deeper]; omega)) (by assumption) ?_; intro t' h' tk F' N'))
local macro_rules | `(tactic| walk_at "call ref") => `(tactic| ((with_reducible show wpAny _ _ (call (Value.ref 108) [_, _, _, _, _]) _ _ _); refine cpath_call (by assumption) (by assumption) (by k_asm) (by k_asm) (by k_asm) (by k_asm) (by (dsimp only [Around.deeper]; omega)) (by (dsimp only [Around.deeper]; omega)) ?_; intro h' tk F' N'))
theorem normpath (x r : Str) (t : Tok) (G : KT w loose mean mg mb s.heap) (hdp : dp < 870) (hu : un < 170) (hn : NormsTo w loose mean mg mb x r)
    (hR : ∀ t' h' tk, (∀ b o, s.heap.get? b = some o → h'.get? b = some o) → R (.ok (.ret (.str r t'))) { s with heap := h', toks := tk }) :
    codeAny (model PySem.Challenge.rw_il0011_01.row.prog w) (Ar dp un fr gd) (.call (.ref 136) ⟨[.str x t], []⟩) R s := by
  obtain ⟨X, T⟩ := G
  revert X; k_fill; intro X
  have hlow := modules_low T.nolimit
  refine' enterN (K := hd.heap_39 w.params) [(Str.ofString "args", .ref s.heap.objs.size), (Str.ofString "kwargs", .ref (s.heap.objs.size + 1))]
    ((s.heap.push { cls := .type "tuple", data := .seq #[.str x t] }).push (dictOf [] 0)) [(s.heap.objs.size + 1, dictOf [] 0), (s.heap.objs.size, { cls := .type "tuple", data := .seq #[.str x t] })] ?hk ?hz ?hn
    X T ?kd ?k6 ?k7 ?k9 ?kB ?_ ?c2 ?c3 ?c4 ?c5
  case k6 => k_is
  case kd => (simp only [recursionLimit] at *; omega)
  case k7 => k_is
  case c5 => decide
  case kB => exact locs rfl
  case c2 => exact rfl
  case c3 => exact rfl
  case c4 => exact rfl
  case hk => exact fun b o e => Heap.get?_push_of_some _ (Heap.get?_push_of_some _ e)
  case hz => rw [Heap.size_push, Heap.size_push]; omega
  case hn =>
    intro q hq
    have hnone : ∀ k, s.heap.get? (s.heap.objs.size + k) = none := fun k => by
      cases e : s.heap.get? (s.heap.objs.size + k) with
      | none => rfl
      | some o => exact absurd (Heap.lt_size e) (Nat.not_lt.mpr (Nat.le_add_right _ _))
    rcases List.mem_cons.mp hq with rfl | hq
    · refine ⟨?_, hnone 1⟩
      have := Heap.get?_push_size (s.heap.push { cls := .type "tuple", data := .seq #[.str x t] }) (o := dictOf [] 0) rfl
      rwa [Heap.size_push] at this
    · rcases List.mem_cons.mp hq with rfl | hq
      · exact ⟨Heap.get?_push_of_some _ (Heap.get?_push_size _ rfl), hnone 0⟩
      · cases hq
  case k9 =>
    intro M A E Q hq
    show wpAny M A (newTuple [.str x t] >>= fun v => (alloc (dictOf [] 0) >>= fun d => pure [(Str.ofString "args", v), (Str.ofString "kwargs", .ref d)])) Q E s
    refine wpAny_bind (wpAny_newObj_type ?_ (by show 1 ≤ sizeLine; decide))
    refine wpAny_bind (wpAny_alloc ?_)
    rw [Heap.size_push]
    exact wpAny_pure hq
  intro h₁ F N
  have hDs : ((s.heap.objs.size + 1 : Addr) == sysModules) = false := beq_false_of_ne (Nat.ne_of_gt (Nat.lt_succ_of_lt hlow))
  have hCs : ((s.heap.objs.size : Addr) == sysModules) = false := beq_false_of_ne (Nat.ne_of_gt hlow)
  (repeat' (first | (k_unfold; (try dsimp only)) | walk1 | (dsimp only; walk1)))
  dsimp only
  exact hR _ _ _ (Fr.keep (by assumption))
end
end Mine
end
section
open PySem PySem.W PySem.Calls PyProof.Rows
set_option maxRecDepth 100000
namespace Mine
theorem offM7 : True := by
  w_top off
  exact True.intro
theorem try_ok {M : Model} {prog : Program} {w : World} {A : Around} {E : Value → Shared → Prop} {s : Shared} {env : Env} {body orelse : List Stmt} {h₀ : ExceptHandler} {hs : List ExceptHandler} {pos : Pos} {Q : Flow → Shared → Prop}
    (h : wpAny (model prog w) A (execs body env) (fun f s₁ => match f with | .next => wpAny (model prog w) A (execs orelse env) Q E s₁ | f => Q f s₁) (fun _ _ => False) s) :
    wpAny (model prog w) A (exec (.Try body (h₀ :: hs) orelse [] pos) env) Q E s :=
  wpAny_Try_except (wpAny_mono h (fun _ _ x => x) fun _ _ x => x.elim)
local macro_rules | `(tactic| walk_at "exec Try") => `(tactic| (refine try_ok ?_))
local macro_rules | `(tactic| walk_at "ite") => `(tactic| first
  | refine ite_no (nof (by with_reducible assumption)) ?_
  | refine ite_yes (bneOf (by with_reducible assumption)) ?_
  | refine ite_no (noLen (by with_reducible assumption)) ?_
  | refine ite_yes (by k_dflt decide +kernel) ?_ | refine ite_no (by k_dflt decide +kernel) ?_)
section
variable {w : World} {dp un : Nat} {fr : Option (List Env)} {gd : Option (List Code)} {s : Shared} {loose : List Str} {mean : ExcName → Option Value} {mg mb : Str → Option Value} {R : Result → Shared → Prop}
  {Q E : Value → Shared → Prop} {h₀ : Heap} {L : Addr} {m : Str → Option Value} {news : List (Addr × Obj)}
set_option maxHeartbeats 1000000
theorem fspath_call {x : Str} {t : Tok} (F : Fr h₀ L s.heap m) (N : News h₀ L s.heap news) (X : (hd.heap_39 w.params).In h₀) (T : Top hd.view_39 loose mean mg mb h₀) (hdp : dp < 900) (hu : un < 200)
    (h : ∀ h' tk, Fr h₀ L h' m → News h₀ L h' news → Q (.str x t) { s with heap := h', toks := tk }) : wpAny (model PySem.Challenge.rw_il0011_01.row.prog w) (Ar dp un fr gd) (call (.ref 94) [.str x t]) Q E s :=
  wpAny_call (fspath_str x t ⟨X.keeps F.keep, T.keeps F.keep⟩ hdp hu fun h' tk k => h h' tk (F.after k) (N.grown k))
theorem getsep_call {x : Str} {t : Tok} (F : Fr h₀ L s.heap m) (N : News h₀ L s.heap news) (X : (hd.heap_39 w.params).In h₀) (T : Top hd.view_39 loose mean mg mb h₀) (hdp : dp < 900) (hu : un < 200)
    (h : ∀ t' h' tk, Fr h₀ L h' m → News h₀ L h' news → Q (.str (Str.ofString "/") t') { s with heap := h', toks := tk }) : wpAny (model PySem.Challenge.rw_il0011_01.row.prog w) (Ar dp un fr gd) (call (.ref 177) [.str x t]) Q E s :=
  wpAny_call (getsep_str x t ⟨X.keeps F.keep, T.keeps F.keep⟩ hdp hu fun t' h' tk k => h t' h' tk (F.after k) (N.grown k))
local macro_rules | `(tactic| walk_at "call ref") => `(tactic| ((with_reducible show wpAny _ _ (call (Value.ref 94) [Value.str _ _]) _ _ _); refine fspath_call (by k_asm) (by k_asm) (by k_asm) (by k_asm) (by (dsimp only [Around.deeper]; omega)) (by (dsimp only [Around.deeper]; omega)) ?_; intro h' tk F' N'))
local macro_rules | `(tactic| walk_at "call ref") => `(tactic| ((with_reducible show wpAny _ _ (call (Value.ref 177) [Value.str _ _]) _ _ _); refine getsep_call (by k_asm) (by k_asm) (by k_asm) (by k_asm) (by (dsimp only [Around.deeper]; omega)) (by (dsimp only [Around.deeper]; omega)) ?_; intro t' h' tk F' N'))
-- a loop whose turns keep the ledger: only the frame's names turn
theorem loopAt {prog : Program} {A : Around} {env : Env} {x : Str} {body : List Stmt} {Q : Flow → Shared → Prop} {I : Addr} {fp wr : List Addr} {n : Nat} {P : Nat → Value → Prop} {St : Nat → Heap → Prop} {s₂ : Shared}
    (W : Walks prog w A I fp wr n P St) (hLf : env.locals ∉ fp) (hwr : ∀ b ∈ wr, h₀.get? b = none) (hnw : ∀ p ∈ news, p.1 ∉ wr) (hst : St 0 s₂.heap)
    (F : Fr h₀ env.locals s₂.heap m) (N : News h₀ env.locals s₂.heap news) (J : Nat → (Str → Option Value) → Prop) (h0 : J 0 m)
    (step : ∀ i v m₁ (s₁ : Shared) own (Qs : Flow → Shared → Prop), (∃ h tk, s₁ = { s₂ with heap := h, toks := tk }) → i < n → P i v → J i m₁ → Fr h₀ env.locals s₁.heap (fun y => if y = x then some v else m₁ y) →
      News h₀ env.locals s₁.heap (own ++ news) → (∀ h' tk m₂, Fr h₀ env.locals h' m₂ → News h₀ env.locals h' (own ++ news) → J (i + 1) m₂ → Qs .next { s₁ with heap := h', toks := tk } ∧ Qs .cont { s₁ with heap := h', toks := tk }) →
      wpAny (model prog w) A (execs body env) Qs E s₁)
    (done : ∀ h' tk m', Fr h₀ env.locals h' m' → News h₀ env.locals h' news → J n m' → Q .next { s₂ with heap := h', toks := tk }) :
    LoopAtV prog w A h₀ env x body Q E (.ref I) s₂ := by
  refine ⟨I, fp, wr, n, P, St, m, news, fun i m' news' => J i m' ∧ news' = news, rfl, W, hLf, hwr, hnw, hst, F, N, ⟨h0, rfl⟩, ?_, ?_⟩
  · rintro i v m₁ news₁ s₁ own hs hi hP ⟨hJ, rfl⟩ _ _ _ _ _ F₁ N₁
    refine step i v m₁ s₁ own _ hs hi hP hJ F₁ N₁ fun h' tk m₂ F₂ N₂ hJ₂ => ⟨?_, ?_⟩
    · exact ⟨rfl, h', tk, m₂, news₁, rfl, F₂, N₂, hnw, hJ₂, rfl⟩
    · exact ⟨rfl, h', tk, m₂, news₁, rfl, F₂, N₂, hnw, hJ₂, rfl⟩
  · rintro h' tk m' news' F' N' _ ⟨hJ, rfl⟩
    exact done h' tk m' F' N' hJ
theorem none_at_size (h : Heap) (k : Nat) : h.get? (h.objs.size + k) = none := by
  cases e : h.get? (h.objs.size + k) with
  | none => rfl
  | some o => exact absurd (Heap.lt_size e) (Nat.not_lt.mpr (Nat.le_add_right _ _))
theorem mapsJ {p b q : Str} {v0 v1 v2 v3 v4 cv : Option Value} {m : Str → Option Value} (hpb : p ≠ b) :
    (fun y => if y = p then v1 else if y = b then v2 else if y = b then v0 else if y = b then cv else if y = p then v3 else if y = q then v4 else m y) = fun y => if y = b then v2 else if y = p then v1 else if y = q then v4 else m y := by
  funext y
  by_cases h1 : y = b
  · subst h1; rw [if_neg (Ne.symm hpb), if_pos rfl, if_pos rfl]
  · by_cases h2 : y = p
    · subst h2; simp only [if_true, if_neg h1]
    · simp only [if_neg h1, if_neg h2]
theorem fresh_none {h : Heap} (F : Fr h₀ L h m) : h₀.get? h.objs.size = none := by
  cases e : h₀.get? h.objs.size with
  | none => rfl
  | some o => exact absurd (Heap.lt_size (F.keep _ _ e)) (Nat.lt_irrefl _)
theorem fr_split {h : Heap} {x : Str} {t ts : Tok} {m0 : Str → Option Value} (F : Fr h₀ L h (fun y => if y = Str.ofString "path" then some (.str x t) else if y = Str.ofString "sep" then some (.str (Str.ofString "/") ts) else m0 y)) (hb : m0 (Str.ofString "b") = none) :
    ∃ (ts : Tok) (m0 : Str → Option Value), m0 (Str.ofString "b") = none ∧ Fr h₀ L h (fun y => if y = Str.ofString "path" then some (.str x t) else if y = Str.ofString "sep" then some (.str (Str.ofString "/") ts) else m0 y) := ⟨ts, m0, hb, F⟩
theorem join (x : Str) (t : Tok) (vs : List Value) (n : Nat) (Pf bf : Nat → Str) (hlen : vs.length = n) (hvs : ∀ (i : Nat) (v : Value), vs[i]? = some v → ∃ u : Tok, v = Value.str (bf i) u)
    (hn : n ≤ 100) (hP0 : Pf 0 = x) (hPs : ∀ i, i < n → Pf i ++ (Str.ofString "/" ++ bf i) = Pf (i + 1)) (hPl : ∀ i, i ≤ n → 0 < (Pf i).length ∧ (Pf i).length ≤ 200 ∧ Txt.endswith (Pf i) (Str.ofString "/") = false)
    (hbl : ∀ i, i < n → (bf i).length ≤ 20 ∧ Txt.startswith (bf i) (Str.ofString "/") = false)
    (G : KT w loose mean mg mb s.heap) (hdp : dp < 870) (hu : un < 170)
    (hR : ∀ t' h' tk, (∀ b o, s.heap.get? b = some o → h'.get? b = some o) → R (.ok (.ret (.str (Pf n) t'))) { s with heap := h', toks := tk }) :
    codeAny (model PySem.Challenge.rw_il0011_01.row.prog w) (Ar dp un fr gd) (.call (.ref 184) ⟨.str x t :: vs, []⟩) R s := by
  obtain ⟨X, T⟩ := G
  revert X; k_fill; intro X
  refine' enterN (K := hd.heap_39 w.params) [(Str.ofString "a", .str x t), (Str.ofString "p", .ref s.heap.objs.size)]
    (s.heap.push { cls := .type "tuple", data := .seq vs.toArray }) [(s.heap.objs.size, { cls := .type "tuple", data := .seq vs.toArray })] ?hk ?hz ?hn
    X T ?kd ?k6 ?k7 ?k9 ?kB ?_ ?c2 ?c3 ?c4 ?c5
  case k6 => k_is
  case kd => (simp only [recursionLimit] at *; omega)
  case k7 => k_is
  case c5 => decide
  case kB => exact locs rfl
  case c2 => exact rfl
  case c3 => exact rfl
  case c4 => exact rfl
  case hk => exact fun b o e => Heap.get?_push_of_some _ e
  case hz => rw [Heap.size_push]; omega
  case hn =>
    intro q hq
    rcases List.mem_cons.mp hq with rfl | hq
    · exact ⟨Heap.get?_push_size _ rfl, none_at_size _ 0⟩
    · cases hq
  case k9 =>
    intro M A E Q hq
    unfold bindArgs
    dsimp only
    simp only [Option.isNone_some, Bool.and_false, Bool.false_eq_true, if_false]
    show wpAny M A (newTuple vs >>= fun v => pure [(Str.ofString "a", .str x t), (Str.ofString "p", v)]) Q E s
    refine wpAny_bind (wpAny_newObj_type ?_ (by show vs.toArray.size ≤ sizeLine; rw [List.size_toArray, sizeLine_eq]; omega))
    exact wpAny_pure hq
  intro h₁ F N
  have hx := hPl 0 (Nat.zero_le _)
  rw [hP0] at hx
  obtain ⟨hx1, hx2, hx3⟩ := hx
  (repeat' (first | (k_unfold; (try dsimp only)) | ((fail_if_success (with_reducible show wpAny _ _ (exec (Stmt.For _ _ _ _ _) _) _ _ _)); walk1) | (dsimp only;  (fail_if_success (with_reducible show wpAny _ _ (exec (Stmt.For _ _ _ _ _) _) _ _ _)); walk1)))
  (with_reducible rename Fr _ _ _ _ => F1); (with_reducible rename News _ _ _ _ => N1)
  refine wpAny_mono (For_invV (E := fun _ _ => False) s.heap rfl rfl ?_ (fun _ => rfl) PassesOwn.never) (fun _ _ x => x) (fun _ _ x => x.elim)
  walk1
  refine wpAny_pyIter_tuple (items := vs.toArray) ⟨_, N1.get (.head _), rfl, _, rfl⟩ ?_
  obtain ⟨ts, m0, hm0, F2⟩ := fr_split F1 rfl
  refine loopAt (news := [(s.heap.objs.size, { cls := .type "tuple", data := .seq vs.toArray })]) (Walks.tuple rfl _ _ ?_ vs.toArray) ?_ ?_ ?_ ⟨⟨_, Heap.get?_push_size _ rfl, rfl, rfl⟩, ⟨_, Heap.get?_push_of_some _ (N1.get (.head _)), rfl, _, rfl⟩⟩ (F2.push _) (fun p hp => (N1.push F1 _ rfl) p (.tail _ hp)) 
    (fun i m' => ∃ cv u, m' = fun y => if y = Str.ofString "b" then cv else if y = Str.ofString "path" then some (.str (Pf i) u) else if y = Str.ofString "sep" then some (.str (Str.ofString "/") ts) else m0 y) ?_ ?_ ?_
  · exact N1.apart _ (.head _)
  · intro hm
    rcases List.mem_cons.mp hm with e | hm
    · have hlt := F1.ns.lt
      exact Nat.lt_irrefl _ (Nat.lt_of_le_of_lt (Nat.le_of_eq e.symm) hlt)
    · exact (N1 _ (.head _)).2.1 (List.mem_singleton.mp hm).symm
  · intro b hb
    rw [List.mem_singleton.mp hb]
    exact fresh_none F1
  · intro q hq hm
    exact N1.apart _ hq (List.mem_singleton.mp hm)
  · refine ⟨none, t, ?_⟩
    funext y
    rw [hP0]
    by_cases hb : y = Str.ofString "b"
    · subst hb; simp only [if_true]; rw [if_neg (by decide), if_neg (by decide), hm0]
    · rw [if_neg hb]
  · rintro i v m₁ s₁ own Qs ⟨hh, tk, rfl⟩ hi hv ⟨cv, u, rfl⟩ F₁ N₁ hQ
    rw [List.size_toArray, hlen] at hi
    obtain ⟨ub, rfl⟩ := hvs i v (by simpa using hv)
    obtain ⟨hp1, hp2, hp3⟩ := hPl i (Nat.le_of_lt hi)
    obtain ⟨hb1, hb2⟩ := hbl i hi
    clear F1 F2 N1
    (repeat' (first | (k_unfold; (try dsimp only)) | walk1 | (dsimp only; walk1)))
    rw [hPs i hi] at *
    (with_reducible rename Fr _ _ _ _ => FR); (with_reducible rename News _ _ _ _ => NR)
    exact (hQ _ _ _ FR NR ⟨_, _, mapsJ (by decide)⟩).1
  · intro h' tk m' F' N' hJ
    rw [List.size_toArray, hlen] at hJ
    obtain ⟨cv, u, rfl⟩ := hJ
    (repeat' (first | (k_unfold; (try dsimp only)) | walk1 | (dsimp only; walk1)))
    dsimp only
    (with_reducible rename Fr _ _ _ _ => FR)
    exact hR _ _ _ FR.keep
end
end Mine
end
section
open PySem PySem.W PySem.Calls PyProof.Rows
set_option maxRecDepth 100000
namespace Mine
theorem offM8 : True := by
  w_top off
  exact True.intro
def sel (i : Int) : Str := if i = 0 then Str.ofString "a" else if i = 1 then Str.ofString "ab" else Str.ofString "b"
def lawName (n : Int) : List Str := [sel (Int.fmod (Int.fdiv n 6) 3), sel (Int.fmod (Int.fdiv n 18) 3), sel (Int.fmod (Int.fdiv n 54) 3)].take (Int.fmod (Int.fdiv n 2) 3 + 1).toNat
section
variable {w : World} {dp un : Nat} {fr : Option (List Env)} {gd : Option (List Code)} {s : Shared} {loose : List Str} {mean : ExcName → Option Value} {mg mb : Str → Option Value} {R : Result → Shared → Prop}
  {Q E : Value → Shared → Prop} {h₀ : Heap} {L : Addr} {m : Str → Option Value} {news : List (Addr × Obj)}
theorem sel_item {prog : Program} {A : Around} {value slice : PySem.Expr} {l : Addr} {i : Int} {u ta tb tc : Tok} {k : Nat} {o : Obj} (N : News h₀ L s.heap news) (hm : (l, o) ∈ news) (ho : o = W.listOf #[.str (Str.ofString "a") ta, .str (Str.ofString "ab") tb, .str (Str.ofString "b") tc] k)
    (h0 : 0 ≤ i) (h3 : i < 3) (h : ∀ t, Q (.str (sel i) t) s)
    (hs : subscripted slice false (.ref l) (.int i u) = operate [.ref l, .int i u] (getItem (.ref l) (.int i u)) := by with_unfolding_all rfl) :
    wpAny (model prog w) A (subscriptTail value slice (.ref l) (.int i u)) Q E s := by
  subst ho
  have hl : s.heap.IsList l #[.str (Str.ofString "a") ta, .str (Str.ofString "ab") tb, .str (Str.ofString "b") tc] := ⟨_, N.get hm, rfl, _, rfl⟩
  have hx : ∃ t, #[Value.str (Str.ofString "a") ta, .str (Str.ofString "ab") tb, .str (Str.ofString "b") tc][i.toNat]? = some (.str (sel i) t) := by
    rcases (by omega : i = 0 ∨ i = 1 ∨ i = 2) with rfl | rfl | rfl
    · exact ⟨ta, rfl⟩
    · exact ⟨tb, rfl⟩
    · exact ⟨tc, rfl⟩
  obtain ⟨t, hx⟩ := hx
  exact tail_any hl.typeIs slot_list_getitem.lookup (wpAny_getItem_list hl h0 (by omega) hx (h t)) hs
theorem tail_slice {prog : Program} {A : Around} {value slice : PySem.Expr} {l : Addr} {items : Array Value} {vl vu vk : Value} {lo hi st : Option Int} {ops : List Value}
    (F : Fr h₀ L s.heap m) (N : News h₀ L s.heap news) (hl : s.heap.IsList l items) (pl : IsPart vl lo) (pu : IsPart vu hi) (pk : IsPart vk st) (h0 : st ≠ some 0) (hsz : items.size ≤ sizeLine)
    (hs : subscripted slice false (.ref l) (.ref s.heap.objs.size) = operate ops (getItem (.ref l) (.ref s.heap.objs.size)))
    (h : ∀ D h', Fr h₀ L h' m → News h₀ L h' ((D, { cls := .type "list", data := .seq (slicePick items lo hi st) }) :: news) → s.heap.get? D = none → Q (.ref D) { s with heap := h' }) :
    wpAny (model prog w) A (subscriptTail value slice (.ref l) (.ref s.heap.objs.size)) Q E { s with heap := s.heap.push { cls := .type "slice", data := .fields #[vl, vu, vk] } } := by
  refine tail_any (s := { s with heap := s.heap.push { cls := .type "slice", data := .fields #[vl, vu, vk] } }) (Heap.IsList.typeIs (s := { s with heap := s.heap.push { cls := .type "slice", data := .fields #[vl, vu, vk] } }) (hl.push _)) list_getitem_lookup
    (wpAny_getItem_list_slice (hl.push _) (Heap.IsSliceOf.new ..) pl pu pk h0 ?_ hsz) hs
  have N1 := News.push (F.push { cls := .type "slice", data := .fields #[vl, vu, vk] }) (N.grown fun _ _ e => Heap.get?_push_of_some _ e) { cls := .type "list", data := .seq (slicePick items lo hi st) }
  refine h _ _ ((F.push _).push _) N1 ?_
  rw [Heap.size_push]
  exact none_at_size _ 1
theorem take3 {h : Heap} {D : Addr} {c : Nat} {x y z : Str} {a b d : Tok} (H : h.get? D = some { cls := .type "list", data := .seq (List.take c #[Value.str x a, .str y b, .str z d].toList).toArray }) :
    ∃ l : List (Str × Tok), List.map (fun x => x.1) l = [x, y, z].take c ∧ h.get? D = some { cls := .type "list", data := .seq (strValues l).toArray 0 } := by
  refine ⟨[(x, a), (y, b), (z, d)].take c, by rw [List.map_take]; rfl, ?_⟩
  unfold strValues
  rw [List.map_take]
  exact H
theorem fmod3_lo (a : Int) : 0 ≤ Int.fmod a 3 := Int.fmod_nonneg_of_pos a (by decide)
theorem fmod3_hi (a : Int) : Int.fmod a 3 < 3 := Int.fmod_lt_of_pos a (by decide)
local macro_rules | `(tactic| walk_at "subscriptTail") => `(tactic| ((with_reducible show wpAny _ _ (subscriptTail _ _ (Value.ref _) (Value.int _ _)) _ _ _); k_dflt (refine' sel_item ?N ?k1 ?k2 ?k3 ?k4 ?_ ?k5; (case N => k_asm); (case k1 => k_mem); (case k2 => exact rfl); (case k3 => exact fmod3_lo _); (case k4 => exact fmod3_hi _); (case k5 => with_unfolding_all rfl)); intro _))
set_option maxHeartbeats 1000000
theorem lawname (n : Int) (t : Tok) (G : KT w loose mean mg mb s.heap) (hdp : dp < 900) (hu : un < 200)
    (hR : ∀ D l k h' tk, (∀ b o, s.heap.get? b = some o → h'.get? b = some o) → s.heap.get? D = none → List.map (fun x : Str × Tok => x.1) l = lawName n → h'.get? D = some { cls := .type "list", data := .seq (strValues l).toArray k } → R (.ok (.ret (.ref D))) { s with heap := h', toks := tk }) :
    codeAny (model PySem.Challenge.rw_il0011_01.row.prog w) (Ar dp un fr gd) (.call (.ref 191) ⟨[.int n t], []⟩) R s := by
  obtain ⟨X, T⟩ := G
  revert X; k_fill; intro X
  refine' enter (K := hd.heap_39 w.params) [(Str.ofString "n", .int n t)] X T ?kd ?k6 ?k7 ?k9 ?kB ?_ ?c2 ?c3 ?c4 ?c5
  (((case k6 => k_is); (case kd => (simp only [recursionLimit] at *; omega)); (case k7 => k_is); (case k9 => exact BindsTo.of_eq rfl); (case c5 => decide); (case kB => exact locs rfl); (case c2 => exact rfl); (case c3 => exact rfl); (case c4 => exact rfl)))
  intro h₁ F
  have N : News s.heap s.heap.objs.size h₁ [] := News.nil
  repeat' (first | (k_unfold; (try dsimp only)) | ((fail_if_success (with_reducible show wpAny _ _ (subscriptTail _ _ (Value.ref _) (Value.ref _)) _ _ _)); walk1) | (dsimp only; (fail_if_success (with_reducible show wpAny _ _ (subscriptTail _ _ (Value.ref _) (Value.ref _)) _ _ _)); walk1))
  (with_reducible rename Fr _ _ _ _ => FR); (with_reducible rename News _ _ _ _ => NR)
  refine tail_slice FR NR ⟨_, NR.get (.head _), rfl, _, rfl⟩ .none (.int _ _) .none (by simp) (by show 3 ≤ sizeLine; decide) (by with_unfolding_all rfl) ?_
  intro D h' F' N' _
  have hb := fmod3_lo (n.fdiv 2)
  have e1 : (n.fdiv 2).fmod 3 + 1 = (((n.fdiv 2).fmod 3 + 1).toNat : Int) := by omega
  rw [e1, slicePick_upto'] at N'
  dsimp only
  obtain ⟨l, hl1, hl2⟩ := take3 (N'.get (.head _))
  exact hR _ l 0 _ _ F'.keep (N'.fresh (.head _)) hl1 hl2
end
end Mine
end
section
open PySem PySem.W PySem.Calls PyProof.Rows
set_option maxRecDepth 100000
namespace Mine
theorem offN1 : True := by
  w_top off
  exact True.intro
local macro_rules | `(tactic| walk_at "call ref") => `(tactic| ((with_reducible show wpAny _ _ (call (Value.ref 115) [Value.str _ _]) _ _ _); refine shelf_call (by k_asm) (by k_asm) (by k_asm) (by k_asm) (by (dsimp only [Around.deeper]; omega)) (by (dsimp only [Around.deeper]; omega)) (by assumption) ?_; intro t' h' tk F' N'))
local macro_rules | `(tactic| walk_at "call ref") => `(tactic| ((with_reducible show wpAny _ _ (call (Value.ref 122) [Value.str _ _]) _ _ _); refine splitroot_call (by k_asm) (by k_asm) (by k_asm) (by k_asm) (by (dsimp only [Around.deeper]; omega)) (by (dsimp only [Around.deeper]; omega)) (by assumption) (by assumption) ?_; intro D' t1' t2' t' h' tk F' N'))
local macro_rules | `(tactic| walk_at "ite") => `(tactic| first
  | refine ite_no (nof (by with_reducible assumption)) ?_
  | refine ite_yes (bneOf (by with_reducible assumption)) ?_
  | refine ite_no (noLen (by with_reducible assumption)) ?_
  | refine ite_yes (by k_dflt decide +kernel) ?_ | refine ite_no (by k_dflt decide +kernel) ?_)
section
variable {w : World} {dp un : Nat} {fr : Option (List Env)} {gd : Option (List Code)} {s : Shared} {loose : List Str} {mean : ExcName → Option Value} {mg mb : Str → Option Value} {R : Result → Shared → Prop}
  {Q E : Value → Shared → Prop} {h₀ : Heap} {L : Addr} {m : Str → Option Value} {news : List (Addr × Obj)}
set_option maxHeartbeats 4000000
theorem map4 {l : List (Str × Tok)} {a b c d : Str} (h : l.map (fun x => x.1) = [a, b, c, d]) : ∃ t1 t2 t3 t4, strValues l = [.str a t1, .str b t2, .str c t3, .str d t4] := by
  match l, h with
  | [(_, t1), (_, t2), (_, t3), (_, t4)], h => simp at h; obtain ⟨rfl, rfl, rfl, rfl⟩ := h; exact ⟨_, _, _, _, rfl⟩
theorem normp1 (x p1 r : Str) (t : Tok) (G : KT w loose mean mg mb s.heap) (hdp : dp < 880) (hu : un < 180) (hx : x.length ≤ 100) (h0 : 0 < x.length) (hs : (Txt.slice x none (some 1) == Str.ofString "/") = false)
    (hp1a : 0 < p1.length) (hp1b : p1.length ≤ 10) (hp1c : (p1 == Str.ofString ".") = false) (hp1d : (p1 == Str.ofString "..") = false)
    (hsp : Txt.split x (Str.ofString "/") = [p1, Str.ofString ".", Str.ofString "x", Str.ofString ".."])
    (hj : Txt.join (Str.ofString "/") [p1] = r) (hr0 : 0 < r.length) (hr : r.length ≤ 100) (hr' : Str.ofString "" ++ r = r)
    (hR : ∀ t' h' tk, (∀ b o, s.heap.get? b = some o → h'.get? b = some o) → R (.ok (.ret (.str r t'))) { s with heap := h', toks := tk }) :
    codeAny (model PySem.Challenge.rw_il0011_01.row.prog w) (Ar dp un fr gd) (.call (.ref 129) ⟨[.str x t], []⟩) R s := by
  obtain ⟨X, T⟩ := G
  revert X; k_fill; intro X
  refine' enter (K := hd.heap_39 w.params) [(Str.ofString "path", .str x t)] X T ?kd ?k6 ?k7 ?k9 ?kB ?_ ?c2 ?c3 ?c4 ?c5
  (((case k6 => k_is); (case kd => (simp only [recursionLimit] at *; omega)); (case k7 => k_is); (case k9 => exact BindsTo.of_eq rfl); (case c5 => decide); (case kB => exact locs rfl); (case c2 => exact rfl); (case c3 => exact rfl); (case c4 => exact rfl)))
  intro h₁ F
  have N : News s.heap s.heap.objs.size h₁ [] := News.nil
  repeat' (first | (k_unfold; (try dsimp only)) | ((fail_if_success (with_reducible show wpAny _ _ (exec (Stmt.For _ _ _ _ _) _) _ _ _)); walk1) | (dsimp only;  (fail_if_success (with_reducible show wpAny _ _ (exec (Stmt.For _ _ _ _ _) _) _ _ _)); walk1))
  rename List.map _ _ = Txt.split _ _ => hl
  rw [hsp] at hl
  obtain ⟨t1, t2, t3, t4, e⟩ := map4 hl
  simp only [e] at *
  repeat' (first | (k_unfold; (try dsimp only)) | ((fail_if_success (with_reducible show wpAny _ _ (binaryOp Operator.Add _ _) _ _ _)); walk1) | (dsimp only; (fail_if_success (with_reducible show wpAny _ _ (binaryOp Operator.Add _ _) _ _ _)); walk1))
  rw [hj]
  k_steps
  simp only [hr'] at *
  repeat' (first | (k_unfold; (try dsimp only)) | walk1 | (dsimp only; walk1))
  dsimp only
  exact hR _ _ _ (Fr.keep (by assumption))
end
end Mine
end
section
open PySem PySem.W PySem.Calls PyProof.Rows
set_option maxRecDepth 100000
namespace Mine
theorem offN2 : True := by
  w_top off
  exact True.intro
local macro_rules | `(tactic| walk_at "pad") => `(tactic| skip)
local macro_rules | `(tactic| walk_at "call ref") => `(tactic| ((with_reducible show wpAny _ _ (call (Value.ref 115) [Value.str _ _]) _ _ _); refine shelf_call (by k_asm) (by k_asm) (by k_asm) (by k_asm) (by (dsimp only [Around.deeper]; omega)) (by (dsimp only [Around.deeper]; omega)) (by assumption) ?_; intro t' h' tk F' N'))
local macro_rules | `(tactic| walk_at "call ref") => `(tactic| ((with_reducible show wpAny _ _ (call (Value.ref 122) [Value.str _ _]) _ _ _); refine splitroot_call (by k_asm) (by k_asm) (by k_asm) (by k_asm) (by (dsimp only [Around.deeper]; omega)) (by (dsimp only [Around.deeper]; omega)) (by assumption) (by assumption) ?_; intro D' t1' t2' t' h' tk F' N'))
local macro_rules | `(tactic| walk_at "ite") => `(tactic| first
  | refine ite_no (nof (by with_reducible assumption)) ?_
  | refine ite_yes (bneOf (by with_reducible assumption)) ?_
  | refine ite_no (noLen (by with_reducible assumption)) ?_
  | refine ite_yes (by k_dflt decide +kernel) ?_ | refine ite_no (by k_dflt decide +kernel) ?_)
section
variable {w : World} {dp un : Nat} {fr : Option (List Env)} {gd : Option (List Code)} {s : Shared} {loose : List Str} {mean : ExcName → Option Value} {mg mb : Str → Option Value} {R : Result → Shared → Prop}
  {Q E : Value → Shared → Prop} {h₀ : Heap} {L : Addr} {m : Str → Option Value} {news : List (Addr × Obj)}
set_option maxHeartbeats 4000000
theorem map5 {l : List (Str × Tok)} {a b c d e : Str} (h : l.map (fun x => x.1) = [a, b, c, d, e]) : ∃ t1 t2 t3 t4 t5, strValues l = [.str a t1, .str b t2, .str c t3, .str d t4, .str e t5] := by
  match l, h with
  | [(_, t1), (_, t2), (_, t3), (_, t4), (_, t5)], h => simp at h; obtain ⟨rfl, rfl, rfl, rfl, rfl⟩ := h; exact ⟨_, _, _, _, _, rfl⟩
theorem normp2 (x p1 p2 r : Str) (t : Tok) (G : KT w loose mean mg mb s.heap) (hdp : dp < 880) (hu : un < 180) (hx : x.length ≤ 100) (h0 : 0 < x.length) (hs : (Txt.slice x none (some 1) == Str.ofString "/") = false)
    (hp1a : 0 < p1.length) (hp1b : p1.length ≤ 10) (hp1c : (p1 == Str.ofString ".") = false) (hp1d : (p1 == Str.ofString "..") = false)
    (hp2a : 0 < p2.length) (hp2b : p2.length ≤ 10) (hp2c : (p2 == Str.ofString ".") = false) (hp2d : (p2 == Str.ofString "..") = false)
    (hsp : Txt.split x (Str.ofString "/") = [p1, p2, Str.ofString ".", Str.ofString "x", Str.ofString ".."])
    (hj : Txt.join (Str.ofString "/") [p1, p2] = r) (hr0 : 0 < r.length) (hr : r.length ≤ 100) (hr' : Str.ofString "" ++ r = r)
    (hR : ∀ t' h' tk, (∀ b o, s.heap.get? b = some o → h'.get? b = some o) → R (.ok (.ret (.str r t'))) { s with heap := h', toks := tk }) :
    codeAny (model PySem.Challenge.rw_il0011_01.row.prog w) (Ar dp un fr gd) (.call (.ref 129) ⟨[.str x t], []⟩) R s := by
  obtain ⟨X, T⟩ := G
  revert X; k_fill; intro X
  refine' enter (K := hd.heap_39 w.params) [(Str.ofString "path", .str x t)] X T ?kd ?k6 ?k7 ?k9 ?kB ?_ ?c2 ?c3 ?c4 ?c5
  (((case k6 => k_is); (case kd => (simp only [recursionLimit] at *; omega)); (case k7 => k_is); (case k9 => exact BindsTo.of_eq rfl); (case c5 => decide); (case kB => exact locs rfl); (case c2 => exact rfl); (case c3 => exact rfl); (case c4 => exact rfl)))
  intro h₁ F
  have N : News s.heap s.heap.objs.size h₁ [] := News.nil
  repeat' (first | (k_unfold; (try dsimp only)) | ((fail_if_success (with_reducible show wpAny _ _ (exec (Stmt.For _ _ _ _ _) _) _ _ _)); walk1) | (dsimp only;  (fail_if_success (with_reducible show wpAny _ _ (exec (Stmt.For _ _ _ _ _) _) _ _ _)); walk1))
  rename List.map _ _ = Txt.split _ _ => hl
  rw [hsp] at hl
  obtain ⟨t1, t2, t3, t4, t5, e⟩ := map5 hl
  simp only [e] at *
  repeat' (first | (k_unfold; (try dsimp only)) | ((fail_if_success (with_reducible show wpAny _ _ (binaryOp Operator.Add _ _) _ _ _)); walk1) | (dsimp only; (fail_if_success (with_reducible show wpAny _ _ (binaryOp Operator.Add _ _) _ _ _)); walk1))
  rw [hj]
  k_steps
  simp only [hr'] at *
  repeat' (first | (k_unfold; (try dsimp only)) | walk1 | (dsimp only; walk1))
  dsimp only
  exact hR _ _ _ (Fr.keep (by assumption))
end
end Mine
end
section
open PySem PySem.W PySem.Calls PyProof.Rows
set_option maxRecDepth 100000
namespace Mine
theorem offN3 : True := by
  w_top off
  exact True.intro
local macro_rules | `(tactic| walk_at "call ref") => `(tactic| ((with_reducible show wpAny _ _ (call (Value.ref 115) [Value.str _ _]) _ _ _); refine shelf_call (by k_asm) (by k_asm) (by k_asm) (by k_asm) (by (dsimp only [Around.deeper]; omega)) (by (dsimp only [Around.deeper]; omega)) (by assumption) ?_; intro t' h' tk F' N'))
local macro_rules | `(tactic| walk_at "call ref") => `(tactic| ((with_reducible show wpAny _ _ (call (Value.ref 122) [Value.str _ _]) _ _ _); refine splitroot_call (by k_asm) (by k_asm) (by k_asm) (by k_asm) (by (dsimp only [Around.deeper]; omega)) (by (dsimp only [Around.deeper]; omega)) (by assumption) (by assumption) ?_; intro D' t1' t2' t' h' tk F' N'))
local macro_rules | `(tactic| walk_at "ite") => `(tactic| first
  | refine ite_no (nof (by with_reducible assumption)) ?_
  | refine ite_yes (bneOf (by with_reducible assumption)) ?_
  | refine ite_no (noLen (by with_reducible assumption)) ?_
  | refine ite_yes (by k_dflt decide +kernel) ?_ | refine ite_no (by k_dflt decide +kernel) ?_)
section
variable {w : World} {dp un : Nat} {fr : Option (List Env)} {gd : Option (List Code)} {s : Shared} {loose : List Str} {mean : ExcName → Option Value} {mg mb : Str → Option Value} {R : Result → Shared → Prop}
  {Q E : Value → Shared → Prop} {h₀ : Heap} {L : Addr} {m : Str → Option Value} {news : List (Addr × Obj)}
set_option maxHeartbeats 4000000
theorem map6 {l : List (Str × Tok)} {a b c d e f : Str} (h : l.map (fun x => x.1) = [a, b, c, d, e, f]) : ∃ t1 t2 t3 t4 t5 t6, strValues l = [.str a t1, .str b t2, .str c t3, .str d t4, .str e t5, .str f t6] := by
  match l, h with
  | [(_, t1), (_, t2), (_, t3), (_, t4), (_, t5), (_, t6)], h => simp at h; obtain ⟨rfl, rfl, rfl, rfl, rfl, rfl⟩ := h; exact ⟨_, _, _, _, _, _, rfl⟩
theorem normp3 (x p1 p2 p3 r : Str) (t : Tok) (G : KT w loose mean mg mb s.heap) (hdp : dp < 880) (hu : un < 180) (hx : x.length ≤ 100) (h0 : 0 < x.length) (hs : (Txt.slice x none (some 1) == Str.ofString "/") = false)
    (hp1a : 0 < p1.length) (hp1b : p1.length ≤ 10) (hp1c : (p1 == Str.ofString ".") = false) (hp1d : (p1 == Str.ofString "..") = false)
    (hp2a : 0 < p2.length) (hp2b : p2.length ≤ 10) (hp2c : (p2 == Str.ofString ".") = false) (hp2d : (p2 == Str.ofString "..") = false)
    (hp3a : 0 < p3.length) (hp3b : p3.length ≤ 10) (hp3c : (p3 == Str.ofString ".") = false) (hp3d : (p3 == Str.ofString "..") = false)
    (hsp : Txt.split x (Str.ofString "/") = [p1, p2, p3, Str.ofString ".", Str.ofString "x", Str.ofString ".."])
    (hj : Txt.join (Str.ofString "/") [p1, p2, p3] = r) (hr0 : 0 < r.length) (hr : r.length ≤ 100) (hr' : Str.ofString "" ++ r = r)
    (hR : ∀ t' h' tk, (∀ b o, s.heap.get? b = some o → h'.get? b = some o) → R (.ok (.ret (.str r t'))) { s with heap := h', toks := tk }) :
    codeAny (model PySem.Challenge.rw_il0011_01.row.prog w) (Ar dp un fr gd) (.call (.ref 129) ⟨[.str x t], []⟩) R s := by
  obtain ⟨X, T⟩ := G
  revert X; k_fill; intro X
  refine' enter (K := hd.heap_39 w.params) [(Str.ofString "path", .str x t)] X T ?kd ?k6 ?k7 ?k9 ?kB ?_ ?c2 ?c3 ?c4 ?c5
  (((case k6 => k_is); (case kd => (simp only [recursionLimit] at *; omega)); (case k7 => k_is); (case k9 => exact BindsTo.of_eq rfl); (case c5 => decide); (case kB => exact locs rfl); (case c2 => exact rfl); (case c3 => exact rfl); (case c4 => exact rfl)))
  intro h₁ F
  have N : News s.heap s.heap.objs.size h₁ [] := News.nil
  repeat' (first | (k_unfold; (try dsimp only)) | ((fail_if_success (with_reducible show wpAny _ _ (exec (Stmt.For _ _ _ _ _) _) _ _ _)); walk1) | (dsimp only;  (fail_if_success (with_reducible show wpAny _ _ (exec (Stmt.For _ _ _ _ _) _) _ _ _)); walk1))
  rename List.map _ _ = Txt.split _ _ => hl
  rw [hsp] at hl
  obtain ⟨t1, t2, t3, t4, t5, t6, e⟩ := map6 hl
  simp only [e] at *
  repeat' (first | (k_unfold; (try dsimp only)) | ((fail_if_success (with_reducible show wpAny _ _ (binaryOp Operator.Add _ _) _ _ _)); walk1) | (dsimp only; (fail_if_success (with_reducible show wpAny _ _ (binaryOp Operator.Add _ _) _ _ _)); walk1))
  rw [hj]
  k_steps
  simp only [hr'] at *
  repeat' (first | (k_unfold; (try dsimp only)) | walk1 | (dsimp only; walk1))
  dsimp only
  exact hR _ _ _ (Fr.keep (by assumption))
end
end Mine
end
section
open PySem PySem.W PySem.Calls PyProof.Rows
set_option maxRecDepth 100000
namespace Mine
section setfacts
theorem slot_setit_next : Slot "set_iterator" "__next__" "set_iterator.__next__" :=
  .of (owner := "set_iterator") (n := "__next__") (by rw [typeLookup_type, builtinLookup_eq_fast]; kernel_rfl) (by decide +kernel) (by decide +kernel) (by decide +kernel)
    (by first | exact .inl (by decide +kernel) | exact .inr (by decide +kernel)) (by rw [isSubtype_type]; kernel_rfl)
theorem slot_setit_iter : Slot "set_iterator" "__iter__" "set_iterator.__iter__" :=
  .of (owner := "set_iterator") (n := "__iter__") (by rw [typeLookup_type, builtinLookup_eq_fast]; kernel_rfl) (by decide +kernel) (by decide +kernel) (by decide +kernel)
    (by first | exact .inl (by decide +kernel) | exact .inr (by decide +kernel)) (by rw [isSubtype_type]; kernel_rfl)
theorem entry_setit_next : entryFor table "set_iterator.__next__" = some Builtin.«set_iterator.__next__» := entryFor_of_tree (by kernel_rfl)
theorem entry_setit_iter : entryFor table "set_iterator.__iter__" = some Builtin.«dict_keyiterator.__iter__» :=
  entryFor_alias (id' := "dict_keyiterator.__iter__") (by kernel_rfl) rfl (by decide +kernel) (by kernel_rfl)
theorem entry_setiter : entryFor table "set.__iter__" = some Builtin.«frozenset.__iter__» :=
  entryFor_alias (id' := "frozenset.__iter__") (by kernel_rfl) rfl (by decide +kernel) (by kernel_rfl)
theorem owner_setit : Manifest.owners.lookup "set_iterator" = some Manifest.sig_set_iterator := by kernel_rfl
theorem args_setit_next (a : Value) : argsOk "set_iterator.__next__" ⟨[a], []⟩ := by unfold argsOk; kernel_rfl
theorem args_setit_iter (a : Value) : argsOk "set_iterator.__iter__" ⟨[a], []⟩ := by unfold argsOk; kernel_rfl
end setfacts
section
variable {prog : Program} {w : World} {A : Around} {E : Value → Shared → Prop} {s : Shared}
theorem wpAny_choose {src : Source} {n : Nat} {Q : Nat → Shared → Prop} (hn : 0 < n) (h : ∀ i d, i < n → Q i { s with drawn := d }) : wpAny (model prog w) A (choose src n) Q E s := fun Γ p _ => by
  show Sem.wp _ _ (Sem.choose src n .pure) _ _ _ _
  rw [Sem.wp_choose]
  refine ⟨Nat.ne_of_gt hn, ?_⟩
  rw [Sem.wp_pure]
  exact h _ _ (Nat.mod_lt _ hn)
theorem consErase {α : Type} {l : List α} {i : Nat} (hi : i < l.length) : List.Perm (l[i] :: l.eraseIdx i) l := by
  rw [List.eraseIdx_eq_take_drop_succ]
  refine (List.perm_middle.symm).trans ?_
  rw [← List.drop_eq_getElem_cons hi, List.take_append_drop]
theorem wpAny_drawOrder {α : Type} : ∀ (n : Nat) (xs : List α) (s : Shared) {Q : List α → Shared → Prop}, xs.length ≤ n → (∀ ys d, List.Perm ys xs → Q ys { s with drawn := d }) → wpAny (model prog w) A (drawOrder n xs) Q E s
  | 0, [], s, Q, _, h => by unfold drawOrder; exact wpAny_pure (h [] s.drawn .nil)
  | 0, x :: xs, s, Q, hl, _ => by simp at hl
  | n + 1, [], s, Q, _, h => by unfold drawOrder; exact wpAny_pure (h [] s.drawn .nil)
  | n + 1, x :: xs, s, Q, hl, h => by
    unfold drawOrder
    refine wpAny_bind (wpAny_choose (by simp) fun i d hi => ?_)
    rw [List.getElem?_eq_getElem hi]
    dsimp only
    refine wpAny_bind (wpAny_drawOrder n _ _ (by rw [List.length_eraseIdx_of_lt hi]; omega) fun ys d' hp => ?_)
    refine wpAny_pure (h _ _ ?_)
    exact (List.Perm.cons _ hp).trans (consErase hi)
theorem pickGo_perm {α : Type} (next : Nat → Nat) : ∀ (fuel k : Nat) (left : List α) (out : Array α), left.length ≤ fuel → List.Perm (pickOrder.go next fuel k left out).toList (out.toList ++ left)
  | 0, k, [], out, _ => by unfold pickOrder.go; simp
  | 0, k, x :: xs, out, h => by simp at h
  | fuel + 1, k, left, out, h => by
    unfold pickOrder.go
    cases left with
    | nil => simp
    | cons x xs =>
      have hi : next k % (x :: xs).length < (x :: xs).length := Nat.mod_lt _ (by simp)
      rw [List.getElem?_eq_getElem hi]
      dsimp only
      refine (pickGo_perm next fuel (k + 1) _ _ (by rw [List.length_eraseIdx_of_lt hi]; omega)).trans ?_
      rw [Array.toList_push, List.append_assoc]
      exact List.Perm.append_left _ (consErase hi)
theorem pickOrder_perm {α : Type} (next : Nat → Nat) (xs : Array α) : List.Perm (pickOrder next xs).toList xs.toList := by
  unfold pickOrder
  exact (pickGo_perm next xs.size 0 xs.toList #[] (by simp)).trans (by simp)
-- the object of a set of strs, as set() and set(list) make it
structure StrSet (prog : Program) (w : World) (o : Obj) (es : Array (Int × Value)) (ep : Nat) (t : SetTable) : Prop where
  exact : o.ExactSet
  data : o.data = .set es ep t
  elems : ElemsOf (strKind prog w) es.toList
  room : es.size < scanBound
  fits : t.fits es.size = true
  led : w.params.followText "set-order" = true ∨ (t.led = true ∧ (t.plain = false ∨ es.size = 0))
-- the walk of a set's iterator: which elements it hands out is `vs`
def SetIter (h : Heap) (I a : Addr) (first : Value) (i n ep : Nat) : Prop :=
  ∃ o, h.get? I = some o ∧ o.cls = .type "set_iterator" ∧ o.data = .fields #[first, .int i 0, .ref a, .int n 0, .int ep 0]
theorem SetIter.typeIs {I a : Addr} {first : Value} {i n ep : Nat} (x : SetIter s.heap I a first i n ep) : s.TypeIs (.ref I) "set_iterator" :=
  let ⟨o, ho, hc, _⟩ := x; ⟨o, ho, hc⟩
theorem setsByText_wp {Q : Bool → Shared → Prop} (h : Q (w.params.followText "set-order") s) : wpAny (model prog w) A setsByText Q E s := by
  unfold setsByText
  exact wpAny_bind (wpAny_askSetting (wpAny_pure h))
theorem next_start {I a : Addr} {first : Value} {i ep : Nat} {o : Obj} {es : Array (Int × Value)} {t : SetTable} {Q : Option Value → Shared → Prop} (hit : SetIter s.heap I a first i es.size ep) (ho : s.heap.get? a = some o) (hS : StrSet prog w o es ep t)
    (h : wpAny (model prog w) A.in1 (if let .int slot _ := first then do
    match ← setNext a slot.toNat i ep with
    | some (x, next) =>
      setField (.ref I) 0 (rawInt next)
      setField (.ref I) 1 (rawInt ((i : Int) + 1))
      ret x
    | none => setField (.ref I) 2 .none; raiseNew (← newExc (.type "StopIteration") [])
  else do
    let some places ← seqItems? first | unsupported "internal:set_iterator"
    match places[i]? with
    | some (.int place _) =>
      let x ← setNextDrawn a place.toNat ep
      setField (.ref I) 1 (rawInt ((i : Int) + 1))
      ret x
    | some _ => unsupported "internal:set_iterator"
    | none => setField (.ref I) 0 (rawInt 0); setField (.ref I) 2 .none; raiseNew (← newExc (.type "StopIteration") []))
     (fun fin s' => ∃ v, fin = .done (.ret v) ∧ Q (some v) s') (fun e s' => wpAny (model prog w) A (isInstance e (.type "StopIteration")) (fun b s'' => b = true ∧ Q none s'') E s') s) :
    wpAny (model prog w) A (pyNext (.ref I)) Q E s := by
  obtain ⟨oi, hoi, hc, hd⟩ := id hit
  unfold pyNext
  refine wpAny_bind (wpAny_attempt (wpAny_callSpecial?_slot (name := Str.ofString "__next__") hit.typeIs slot_setit_next
    (wpAny_call_entry slot_setit_next hit.typeIs entry_setit_next ?_ (args_setit_next _))))
  show wpAny _ _ (Builtin.«set_iterator.__next__» { pos := [Value.ref I] }) (fun fin s' => ∃ v, fin = Fin.done (Flow.ret v) ∧ wpAny (model prog w) A (pure (some v)) Q E s') (fun e s' => wpAny (model prog w) A (do
            let __do_lift ← isInstance e (Value.type "StopIteration")
            if __do_lift = true then pure none else throw e) Q E s') s
  refine wpAny_mono (Q := fun fin s' => ∃ v, fin = .done (.ret v) ∧ Q (some v) s') ?_ (fun fin s' ⟨v, e, hq⟩ => ⟨v, e, wpAny_pure hq⟩) (fun e s' hq => hq)
  refine wpAny_mono (E := fun e s' => wpAny (model prog w) A (isInstance e (.type "StopIteration")) (fun b s'' => b = true ∧ Q none s'') E s') ?_ (fun _ _ h => h) (fun e s' hq => wpAny_bind (wpAny_mono hq (fun b s'' ⟨hb, hq⟩ => by subst hb; exact wpAny_pure hq) fun _ _ x => x))
  unfold Builtin.«set_iterator.__next__»
  show wpAny _ _ (fieldsOf (.ref I) >>= _) _ _ _
  refine wpAny_bind (wpAny_fieldsOf hoi hd ?_)
  dsimp only
  refine wpAny_bind (wpAny_setEntries_of ho hS.data hS.fits ?_)
  rw [show (((es.size : Nat) : Int) != ((es.size : Nat) : Int)) = false by simp]
  rw [if_neg Bool.false_ne_true]
  exact h
theorem stop_end {I : Addr} {o : Obj} {vs} {k : Nat} {x : Value} {Q : Option Value → Shared → Prop} (hh : A.handled = none) (ho : s.heap.get? I = some o) (hd : o.data = .fields vs) (hk : k < vs.size)
    (h : ∀ h' tk, Heap.ExtBut I s.heap h' → Q none { s with heap := h', toks := tk }) :
    wpAny (model prog w) A.in1 (do setField (.ref I) k x; raiseNew (← newExc (.type "StopIteration") []))
     (fun (fin : Fin) s' => ∃ v, fin = Fin.done (Flow.ret v) ∧ Q (some v) s') (fun e s' => wpAny (model prog w) A (isInstance e (.type "StopIteration")) (fun b s'' => b = true ∧ Q none s'') E s') s := by
  refine wpAny_bind (wpAny_setField ho hd (by simpa using hk) ?_)
  show wpAny _ _ (newExc (.type "StopIteration") [] >>= _) _ _ _
  refine wpAny_bind ?_
  simp only [newExc, newTuple]
  refine wpAny_bind (wpAny_newObj_type ?_ (by size_fits))
  refine wpAny_bind (m := firstArgMember _ _) (wpAny_of_eq (a := Value.none) (by first | rfl | (simp only [firstArgMember]; rfl)) ?_)
  refine wpAny_newObj_type ?_ (by size_fits)
  simp only [raiseNew]
  refine wpAny_bind (wpAny_handled ?_)
  first | rw [show A.in1.handled = none from hh] | rw [hh]
  refine wpAny_bind (wpAny_pure (wpAny_throw ?_))
  refine (wpAny_isInstance (T := "StopIteration") (b := true) ⟨_, Heap.get?_push_size _ rfl, rfl⟩ isSubtype_stop ?_)
  exact ⟨rfl, h _ _ (((Heap.SameBut.update ..).extBut.push _).push _)⟩
theorem it_set {I : Addr} {o : Obj} {vs} {k : Nat} {x : Value} {Q : Unit → Shared → Prop} (ho : s.heap.get? I = some o) (hd : o.data = .fields vs) (hk : k < vs.size)
    (h : ∀ h' o', h'.get? I = some o' → o'.cls = o.cls → o'.data = .fields (vs.setIfInBounds k x) → Heap.SameBut I s.heap h' → Q () { s with heap := h' }) : wpAny (model prog w) A (setField (.ref I) k x) Q E s :=
  wpAny_setField ho hd hk (h _ _ (Heap.get?_update_self _ ho (Obj.isFreed_of_fields (Obj.data_mapFields hd _))) (Obj.cls_mapFields ..) (Obj.data_mapFields hd _) (Heap.SameBut.update ..))
-- 1. an order that the world tells from the text
theorem next_text_item {I a : Addr} {i ep : Nat} {o : Obj} {es : Array (Int × Value)} {t : SetTable} {e : Int × Value} {Q : Option Value → Shared → Prop} (hit : SetIter s.heap I a (.int 0 0) i es.size ep) (ho : s.heap.get? a = some o) (hS : StrSet prog w o es ep t)
    (hb : w.params.followText "set-order" = true) (hx : (pickOrder (w.params.setOrder a ep) es)[i]? = some e)
    (hQ : ∀ h', SetIter h' I a (.int 0 0) (i + 1) es.size ep → Heap.SameBut I s.heap h' → Q (some e.2) { s with heap := h' }) :
    wpAny (model prog w) A (pyNext (.ref I)) Q E s := by
  refine next_start hit ho hS ?_
  dsimp only
  obtain ⟨oi, hoi, hc, hd⟩ := id hit
  refine wpAny_bind ?_
  unfold setNext setWalk
  refine wpAny_bind (wpAny_setState_of ho hS.data hS.fits ?_)
  dsimp only
  refine wpAny_bind (setsByText_wp ?_)
  rw [hb, if_pos rfl, show (ep != ep) = false by simp, if_neg Bool.false_ne_true]
  refine wpAny_bind (m := bind (setState a) _) (wpAny_bind (wpAny_setState_of ho hS.data hS.fits ?_))
  dsimp only
  refine wpAny_bind (setsByText_wp ?_)
  rw [hb, if_pos rfl]
  refine wpAny_bind (wpAny_askSetting ?_)
  refine wpAny_pure (wpAny_pure ?_)
  rw [show (pickOrder ((⟨(model prog w).prog, (model prog w).w.params⟩ : Setting).params.setOrder a ep) es)[i]? = some e from hx]
  dsimp only [Option.map]
  refine wpAny_bind (it_set hoi hd (by simp) fun h1 o1 ho1 hc1 hd1 hs1 => ?_)
  refine wpAny_bind (it_set (s := { s with heap := h1 }) ho1 hd1 (by simp) fun h2 o2 ho2 hc2 hd2 hs2 => ?_)
  refine wpAny_pure ⟨_, rfl, hQ _ ⟨_, ho2, (hc2.trans hc1).trans hc, by rw [hd2]; simp [rawInt]⟩ (hs1.trans hs2)⟩
theorem next_text_end {I a : Addr} {i ep : Nat} {o : Obj} {es : Array (Int × Value)} {t : SetTable} {Q : Option Value → Shared → Prop} (hh : A.handled = none) (hit : SetIter s.heap I a (.int 0 0) i es.size ep) (ho : s.heap.get? a = some o) (hS : StrSet prog w o es ep t)
    (hb : w.params.followText "set-order" = true) (hx : (pickOrder (w.params.setOrder a ep) es)[i]? = none)
    (hQ : ∀ h' tk, Heap.ExtBut I s.heap h' → Q none { s with heap := h', toks := tk }) :
    wpAny (model prog w) A (pyNext (.ref I)) Q E s := by
  refine next_start hit ho hS ?_
  dsimp only
  obtain ⟨oi, hoi, hc, hd⟩ := id hit
  refine wpAny_bind ?_
  unfold setNext setWalk
  refine wpAny_bind (wpAny_setState_of ho hS.data hS.fits ?_)
  dsimp only
  refine wpAny_bind (setsByText_wp ?_)
  rw [hb, if_pos rfl, show (ep != ep) = false by simp, if_neg Bool.false_ne_true]
  refine wpAny_bind (m := bind (setState a) _) (wpAny_bind (wpAny_setState_of ho hS.data hS.fits ?_))
  dsimp only
  refine wpAny_bind (setsByText_wp ?_)
  rw [hb, if_pos rfl]
  refine wpAny_bind (wpAny_askSetting ?_)
  refine wpAny_pure (wpAny_pure ?_)
  rw [show (pickOrder ((⟨(model prog w).prog, (model prog w).w.params⟩ : Setting).params.setOrder a ep) es)[i]? = none from hx]
  dsimp only [Option.map]
  exact stop_end hh hoi hd (by simp) hQ
-- 2. no element, or one
theorem next_small {I a : Addr} {i slot ep : Nat} {o : Obj} {es : Array (Int × Value)} {t : SetTable} {Q : Option Value → Shared → Prop} (hh : A.handled = none) (hit : SetIter s.heap I a (.int slot 0) i es.size ep) (ho : s.heap.get? a = some o) (hS : StrSet prog w o es ep t)
    (hb : w.params.followText "set-order" = false) (hz : es.size ≤ 1)
    (hQ0 : ∀ x j h', es[SetTable.below t.place slot]? = some x → t.place[SetTable.below t.place slot]? = some j → SetIter h' I a (.int (j + 1 : Nat) 0) (i + 1) es.size ep → Heap.SameBut I s.heap h' → Q (some x.2) { s with heap := h' })
    (hQ : ∀ h' tk, (es[SetTable.below t.place slot]? = none ∨ t.place[SetTable.below t.place slot]? = none) → Heap.ExtBut I s.heap h' → Q none { s with heap := h', toks := tk }) :
    wpAny (model prog w) A (pyNext (.ref I)) Q E s := by
  refine next_start hit ho hS ?_
  dsimp only
  obtain ⟨oi, hoi, hc, hd⟩ := id hit
  refine wpAny_bind ?_
  unfold setNext
  refine wpAny_bind (wpAny_setState_of ho hS.data hS.fits ?_)
  dsimp only
  refine wpAny_bind (setsByText_wp ?_)
  rw [hb, if_neg Bool.false_ne_true]
  show wpAny _ _ (if (!t.plain && decide (es.size > 1)) = true then _ else _) _ _ _
  rw [if_neg (by simp; omega)]
  refine wpAny_bind (m := if (!t.led && !es.isEmpty) = true then unsupported "set:maker-not-led" else pure ()) ?_
  have hled : (!t.led && !es.isEmpty) = false := by
    rcases hS.led with h | ⟨h, _⟩
    · rw [hb] at h; cases h
    · rw [h]; rfl
  rw [hled, if_neg Bool.false_ne_true]
  refine wpAny_pure ?_
  rw [show ((slot : Int)).toNat = slot from Int.toNat_natCast _]
  refine wpAny_pure ?_
  cases he : es[SetTable.below t.place slot]? with
  | none => dsimp only; exact stop_end hh hoi hd (by simp) fun h' tk => hQ h' tk (.inl he)
  | some x =>
    cases hj : t.place[SetTable.below t.place slot]? with
    | none => dsimp only; exact stop_end hh hoi hd (by simp) fun h' tk => hQ h' tk (.inr hj)
    | some j =>
      obtain ⟨xh, xv⟩ := x
      dsimp only
      refine wpAny_bind (it_set hoi hd (by simp) fun h1 o1 ho1 hc1 hd1 hs1 => ?_)
      refine wpAny_bind (it_set (s := { s with heap := h1 }) ho1 hd1 (by simp) fun h2 o2 ho2 hc2 hd2 hs2 => ?_)
      exact wpAny_pure ⟨_, rfl, hQ0 _ _ _ he hj ⟨_, ho2, (hc2.trans hc1).trans hc, by rw [hd2]; simp [rawInt]⟩ (hs1.trans hs2)⟩
-- 3. an order that is drawn ahead
theorem next_drawn_item {I a T : Addr} {i ep : Nat} {o oT : Obj} {places : Array Value} {cT : Nat} {es : Array (Int × Value)} {t : SetTable} {e : Int × Value} {k : Nat} {u : Tok} {Q : Option Value → Shared → Prop} (hit : SetIter s.heap I a (.ref T) i es.size ep) (ho : s.heap.get? a = some o) (hS : StrSet prog w o es ep t)
    (hT : s.heap.get? T = some oT) (hTd : oT.data = .seq places cT) (hk : places[i]? = some (.int k u)) (he : es[k]? = some e)
    (hQ : ∀ h', SetIter h' I a (.ref T) (i + 1) es.size ep → Heap.SameBut I s.heap h' → Q (some e.2) { s with heap := h' }) :
    wpAny (model prog w) A (pyNext (.ref I)) Q E s := by
  refine next_start hit ho hS ?_
  dsimp only
  obtain ⟨oi, hoi, hc, hd⟩ := id hit
  refine wpAny_bind (wpAny_seqItems hT hTd ?_)
  dsimp only
  rw [hk]
  dsimp only
  unfold setNextDrawn
  refine wpAny_bind (wpAny_bind (wpAny_setState_of ho hS.data hS.fits ?_))
  dsimp only
  rw [show (ep != ep) = false by simp, if_neg Bool.false_ne_true, show ((k : Int)).toNat = k from Int.toNat_natCast _, he]
  obtain ⟨eh, ev⟩ := e
  refine wpAny_pure ?_
  refine wpAny_bind (it_set hoi hd (by simp) fun h2 o2 ho2 hc2 hd2 hs2 => ?_)
  exact wpAny_pure ⟨_, rfl, hQ _ ⟨_, ho2, hc2.trans hc, by rw [hd2]; simp [rawInt]⟩ hs2⟩
theorem next_drawn_end {I a T : Addr} {i ep : Nat} {o oT : Obj} {places : Array Value} {cT : Nat} {es : Array (Int × Value)} {t : SetTable} {Q : Option Value → Shared → Prop} (hh : A.handled = none) (hit : SetIter s.heap I a (.ref T) i es.size ep) (ho : s.heap.get? a = some o) (hS : StrSet prog w o es ep t)
    (hT : s.heap.get? T = some oT) (hTd : oT.data = .seq places cT) (hk : places[i]? = none)
    (hQ : ∀ h' tk, Heap.ExtBut I s.heap h' → Q none { s with heap := h', toks := tk }) :
    wpAny (model prog w) A (pyNext (.ref I)) Q E s := by
  refine next_start hit ho hS ?_
  dsimp only
  obtain ⟨oi, hoi, hc, hd⟩ := id hit
  refine wpAny_bind (wpAny_seqItems hT hTd ?_)
  dsimp only
  rw [hk]
  dsimp only
  refine wpAny_bind (it_set hoi hd (by simp) fun h2 o2 ho2 hc2 hd2 hs2 => ?_)
  exact stop_end (s := { s with heap := h2 }) hh ho2 hd2 (by simp) fun h' tk hx => hQ h' tk (fun b o' hb e => hx b o' hb (hs2.extBut b o' hb e))
theorem iter_self {I a : Addr} {first : Value} {i n ep : Nat} {Q : Value → Shared → Prop} (hit : SetIter s.heap I a first i n ep) (h : Q (.ref I) s) : wpAny (model prog w) A (pyIter (.ref I)) Q E s := by
  refine wpAny_pyIter_slot hit.typeIs slot_setit_iter (wpAny_call_entry slot_setit_iter hit.typeIs entry_setit_iter ?_ (args_setit_iter _))
  show wpAny _ _ (ret (.ref I)) _ _ s
  exact wpAny_pure ⟨_, rfl, "set_iterator", _, hit.typeIs, slot_setit_next.lookup, h⟩
theorem SetIter.at {h h' : Heap} {I a : Addr} {first : Value} {i n ep : Nat} (x : SetIter h I a first i n ep) (k : ∀ o, h.get? I = some o → h'.get? I = some o) : SetIter h' I a first i n ep :=
  let ⟨o, ho, r⟩ := x; ⟨o, k o ho, r⟩
theorem walks_text {I a : Addr} {ep : Nat} {o : Obj} {es : Array (Int × Value)} {t : SetTable} (hh : A.handled = none) (hne : a ≠ I) (hS : StrSet prog w o es ep t) (hb : w.params.followText "set-order" = true) :
    Walks prog w A I [I, a] [I] ((pickOrder (w.params.setOrder a ep) es).toList.map (·.2)).length (fun i v => ((pickOrder (w.params.setOrder a ep) es).toList.map (·.2))[i]? = some v)
      (fun i h => SetIter h I a (.int 0 0) i es.size ep ∧ h.get? a = some o) where
  sub := fun b hb => by simp at hb; simp [hb]
  frame := fun _ _ _ st hk => ⟨st.1.at fun o e => hk I (by simp) o e, hk a (by simp) _ st.2⟩
  item := fun i s Q E hi st hQ => by
    rw [List.length_map, Array.length_toList] at hi
    have hx : (pickOrder (w.params.setOrder a ep) es)[i]? = some (pickOrder (w.params.setOrder a ep) es)[i] := Array.getElem?_eq_getElem hi
    refine next_text_item st.1 st.2 hS hb hx fun h' hit' hs' => ?_
    refine hQ _ h' s.toks (by simp [hi]) ⟨hit', hs'.2 a hne ▸ st.2⟩ fun b o hb e => hs'.extBut b o (fun h => hb (by simp [h])) e
  done := fun s Q E st hQ => next_text_end hh st.1 st.2 hS hb (by simp) fun h' tk he' => hQ h' tk fun b o hb e => he' b o (fun h => hb (by simp [h])) e
  self := fun _ _ _ _ st hQ => iter_self st.1 hQ
theorem one_place {xs : Array Nat} {j : Nat} (h1 : xs.size = 1) (hj : xs[0]? = some j) : xs = #[j] := by
  obtain ⟨l⟩ := xs
  match l, h1 with
  | [y], _ => simp at hj; rw [hj]
theorem walks_small {I a : Addr} {ep : Nat} {o : Obj} {es : Array (Int × Value)} {t : SetTable} (hh : A.handled = none) (hne : a ≠ I) (hS : StrSet prog w o es ep t) (hb : w.params.followText "set-order" = false) (hz : es.size ≤ 1) :
    Walks prog w A I [I, a] [I] (es.toList.map (·.2)).length (fun i v => (es.toList.map (·.2))[i]? = some v)
      (fun i h => (∃ slot : Nat, SetIter h I a (.int slot 0) i es.size ep ∧ SetTable.below t.place slot = i) ∧ h.get? a = some o) where
  sub := fun b hb => by simp at hb; simp [hb]
  frame := fun _ _ _ st hk => ⟨let ⟨sl, x, y⟩ := st.1; ⟨sl, x.at fun o e => hk I (by simp) o e, y⟩, hk a (by simp) _ st.2⟩
  item := fun i s Q E hi st hQ => by
    rw [List.length_map, Array.length_toList] at hi
    obtain ⟨⟨sl, hit, hbl⟩, ho⟩ := st
    have hf : t.place.size = es.size := by have := hS.fits; simp only [SetTable.fits, Bool.and_eq_true, beq_iff_eq] at this; exact this.1
    have hi0 : i = 0 := by omega
    refine next_small hh hit ho hS hb hz (fun x j h' hx hj hit' hs' => ?_) fun h' tk he _ => ?_
    · rw [hbl] at hx hj
      refine hQ _ h' s.toks (by simp [hx]) ⟨⟨_, hit', ?_⟩, hs'.2 a hne ▸ ho⟩ fun b o hb e => hs'.extBut b o (fun h => hb (by simp [h])) e
      have hp : t.place = #[j] := by
        have h1 : t.place.size = 1 := by omega
        rw [hi0] at hj
        exact one_place h1 hj
      rw [hp, hi0]
      simp [SetTable.below, SetTable.below.go]
    · rw [hbl] at he
      rcases he with he | he
      · rw [Array.getElem?_eq_getElem hi] at he; cases he
      · rw [Array.getElem?_eq_getElem (by rw [hf]; exact hi)] at he; cases he
  done := fun s Q E st hQ => by
    obtain ⟨⟨sl, hit, hbl⟩, ho⟩ := st
    refine next_small hh hit ho hS hb hz (fun x j h' hx hj hit' hs' => ?_) fun h' tk _ he' => hQ h' tk fun b o hb e => he' b o (fun h => hb (by simp [h])) e
    rw [hbl] at hx
    simp at hx
  self := fun _ _ _ _ st hQ => let ⟨_, x, _⟩ := st.1; iter_self x hQ
theorem walks_drawn {I a T : Addr} {ep : Nat} {o : Obj} {ys : List Nat} {es : Array (Int × Value)} {t : SetTable} (hh : A.handled = none) (hne : a ≠ I) (hneT : T ≠ I) (hS : StrSet prog w o es ep t) (hys : ∀ k ∈ ys, k < es.size) :
    Walks prog w A I [I, a, T] [I] (ys.map fun k => ((es[k]?.map (·.2)).getD .none)).length (fun i v => (ys.map fun k => ((es[k]?.map (·.2)).getD .none))[i]? = some v)
      (fun i h => SetIter h I a (.ref T) i es.size ep ∧ h.get? a = some o ∧ h.get? T = some { cls := .type "tuple", data := .seq (ys.map fun (k : Nat) => rawInt k).toArray }) where
  sub := fun b hb => by simp at hb; simp [hb]
  frame := fun _ _ _ st hk => ⟨st.1.at fun o e => hk I (by simp) o e, hk a (by simp) _ st.2.1, hk T (by simp) _ st.2.2⟩
  item := fun i s Q E hi st hQ => by
    rw [List.length_map] at hi
    have hk := hys _ (List.getElem_mem hi)
    have hes : es[ys[i]]? = some es[ys[i]] := Array.getElem?_eq_getElem hk
    refine next_drawn_item (k := ys[i]) (u := 0) (e := es[ys[i]]) st.1 st.2.1 hS st.2.2 rfl (by simp [hi, rawInt]) hes fun h' hit' hs' => ?_
    refine hQ _ h' s.toks (by simp [hi, hes]) ⟨hit', hs'.2 a hne ▸ st.2.1, hs'.2 T hneT ▸ st.2.2⟩ fun b o hb e => hs'.extBut b o (fun h => hb (by simp [h])) e
  done := fun s Q E st hQ => next_drawn_end hh st.1 st.2.1 hS st.2.2 rfl (by simp) fun h' tk he' => hQ h' tk fun b o hb e => he' b o (fun h => hb (by simp [h])) e
  self := fun _ _ _ _ st hQ => iter_self st.1 hQ
theorem below_zero {xs : Array Nat} (h : xs.size ≤ 1) : SetTable.below xs 0 = 0 := by
  obtain ⟨l⟩ := xs
  match l, h with
  | [], _ => simp [SetTable.below, SetTable.below.go]
  | [y], _ => simp [SetTable.below, SetTable.below.go]
theorem map_range_get {es : Array (Int × Value)} : (List.range es.size).map (fun k => ((es[k]?.map (·.2)).getD .none)) = es.toList.map (·.2) := by
  refine List.ext_getElem (by simp) fun i h1 h2 => ?_
  simp at h1
  simp [h1]
theorem iter_set {a : Addr} {o : Obj} {es : Array (Int × Value)} {ep : Nat} {t : SetTable} {Q : Value → Shared → Prop} (hh : A.handled = none) (ho : s.heap.get? a = some o) (hS : StrSet prog w o es ep t)
    (h : ∀ I fp vs St d h', Walks prog w A I fp [I] vs.length (fun i (v : Value) => vs[i]? = some v) St → St 0 h' → (∀ b ∈ fp, b = a ∨ s.heap.get? b = none) → (∀ b ∈ fp, b < h'.objs.size) → s.heap.get? I = none →
      (∀ b o, s.heap.get? b = some o → h'.get? b = some o) → List.Perm vs (es.toList.map (·.2)) → Q (.ref I) { s with heap := h', drawn := d }) :
    wpAny (model prog w) A (pyIter (.ref a)) Q E s := by
  have hT : s.TypeIs (.ref a) "set" := ⟨o, ho, hS.exact.1⟩
  have hlt := Heap.lt_size ho
  have hnone : ∀ k, s.heap.get? (s.heap.objs.size + k) = none := fun k => by
    cases e : s.heap.get? (s.heap.objs.size + k) with
    | none => rfl
    | some o => exact absurd (Heap.lt_size e) (Nat.not_lt.mpr (Nat.le_add_right _ _))
  refine wpAny_pyIter_slot hT F.slot_set_iter (wpAny_call_entry F.slot_set_iter hT entry_setiter ?_ (F.args_set_iter_1 _))
  unfold Builtin.«frozenset.__iter__» Builtin.Frozenset.slot0 slotArgs
  simp only [List.isEmpty_nil, Bool.not_true, Bool.false_eq_true, ↓reduceIte, bind_assoc, List.length_nil, bne_self_eq_false]
  unfold Builtin.Frozenset.addrOf Builtin.Frozenset.sizeOf
  refine wpAny_bind (wpAny_pure ?_)
  try dsimp only
  refine wpAny_bind (wpAny_pure ?_)
  refine wpAny_bind (wpAny_bind (wpAny_setEntries_of ho hS.data hS.fits (wpAny_pure ?_)))
  unfold setDrawn
  refine wpAny_bind (wpAny_bind (wpAny_setState_of ho hS.data hS.fits ?_))
  dsimp only
  refine wpAny_bind (setsByText_wp (wpAny_pure ?_))
  show wpAny _ _ (if (!w.params.followText "set-order" && (!t.plain && decide (es.size > 1))) = true then _ else _) _ _ _
  by_cases hd : (!w.params.followText "set-order" && (!t.plain && decide (es.size > 1))) = true
  · rw [if_pos hd]
    refine wpAny_bind (wpAny_drawOrder _ _ _ (by simp) fun ys d hp => ?_)
    have hyl : ys.length = es.size := by rw [hp.length_eq, List.length_range]
    refine wpAny_bind (wpAny_newObj_type ?_ ?_)
    · refine wpAny_bind (wpAny_setEpoch_of (s := { s with drawn := d, heap := s.heap.push { cls := .type "tuple", data := .seq (ys.map fun (k : Nat) => rawInt k).toArray } }) (Heap.get?_push_of_some _ ho) hS.data hS.fits ?_)
      refine wpAny_bind (wpAny_newObj_type (wpAny_pure ⟨_, rfl, "set_iterator", _, ⟨_, Heap.get?_push_size _ rfl, rfl⟩, slot_setit_next.lookup, ?_⟩))
      have hsz := Heap.size_push s.heap { cls := .type "tuple", data := .seq (ys.map fun (k : Nat) => rawInt k).toArray }
      refine h _ _ _ _ _ _ (walks_drawn (T := s.heap.objs.size) hh ?_ ?_ hS (ys := ys) ?_) ⟨⟨_, Heap.get?_push_size _ rfl, rfl, rfl⟩, Heap.get?_push_of_some _ (Heap.get?_push_of_some _ ho), Heap.get?_push_of_some _ (Heap.get?_push_size _ rfl)⟩ ?_ ?_ ?_ (fun b o e => Heap.get?_push_of_some _ (Heap.get?_push_of_some _ e)) ?_
      · rw [hsz]; exact Nat.ne_of_lt (Nat.lt_succ_of_lt hlt)
      · rw [hsz]; exact Nat.ne_of_lt (Nat.lt_succ_self _)
      · intro k hk; exact List.mem_range.mp (hp.mem_iff.mp hk)
      · intro b hb
        rw [hsz] at hb
        rcases List.mem_cons.mp hb with rfl | hb
        · exact .inr (hnone 1)
        · rcases List.mem_cons.mp hb with rfl | hb
          · exact .inl rfl
          · rcases List.mem_cons.mp hb with rfl | hb
            · exact .inr (hnone 0)
            · cases hb
      · intro b hb
        rw [Heap.size_push, hsz]
        rw [hsz] at hb
        rcases List.mem_cons.mp hb with rfl | hb
        · exact Nat.lt_succ_self _
        · rcases List.mem_cons.mp hb with rfl | hb
          · exact Nat.lt_succ_of_lt (Nat.lt_succ_of_lt hlt)
          · rcases List.mem_cons.mp hb with rfl | hb
            · exact Nat.lt_succ_of_lt (Nat.lt_succ_self _)
            · cases hb
      · rw [hsz]; exact hnone 1
      · refine (hp.map _).trans ?_
        rw [map_range_get]
    · show (ys.map fun (k : Nat) => rawInt k).length ≤ sizeLine
      rw [List.length_map, hyl]
      exact fits_of_scanBound hS.room
  · rw [if_neg hd]
    refine wpAny_bind (wpAny_pure ?_)
    refine wpAny_bind (wpAny_setEpoch_of ho hS.data hS.fits ?_)
    refine wpAny_bind (wpAny_newObj_type (wpAny_pure ⟨_, rfl, "set_iterator", _, ⟨_, Heap.get?_push_size _ rfl, rfl⟩, slot_setit_next.lookup, ?_⟩))
    have hneI : a ≠ s.heap.objs.size := Nat.ne_of_lt hlt
    by_cases hb : w.params.followText "set-order" = true
    · refine h _ _ _ _ _ _ (walks_text hh hneI hS hb) ⟨⟨_, Heap.get?_push_size _ rfl, rfl, rfl⟩, Heap.get?_push_of_some _ ho⟩ ?_ ?_ (hnone 0) (fun b o e => Heap.get?_push_of_some _ e) ((pickOrder_perm _ _).map _)
      · intro b hb; simp at hb; rcases hb with rfl | rfl
        · exact .inr (hnone 0)
        · exact .inl rfl
      · intro b hb; simp at hb; rw [Heap.size_push]; rcases hb with rfl | rfl
        · exact Nat.lt_succ_self _
        · exact Nat.lt_succ_of_lt hlt
    · have hb : w.params.followText "set-order" = false := by simpa using hb
      have hz : es.size ≤ 1 := by
        rw [hb] at hd
        rcases hS.led with h1 | ⟨_, h1 | h1⟩
        · rw [hb] at h1; cases h1
        · rw [h1] at hd; simp at hd; omega
        · omega
      refine h _ _ _ _ _ _ (walks_small hh hneI hS hb hz) ⟨⟨0, ⟨_, Heap.get?_push_size _ rfl, rfl, rfl⟩, ?_⟩, Heap.get?_push_of_some _ ho⟩ ?_ ?_ (hnone 0) (fun b o e => Heap.get?_push_of_some _ e) .rfl
      · have hf : t.place.size = es.size := by have := hS.fits; simp only [SetTable.fits, Bool.and_eq_true, beq_iff_eq] at this; exact this.1
        exact below_zero (by omega)
      · intro b hb; simp at hb; rcases hb with rfl | rfl
        · exact .inr (hnone 0)
        · exact .inl rfl
      · intro b hb; simp at hb; rw [Heap.size_push]; rcases hb with rfl | rfl
        · exact Nat.lt_succ_self _
        · exact Nat.lt_succ_of_lt hlt
end
end Mine
end
section
open PySem PySem.W PySem.Calls PyProof.Rows
set_option maxRecDepth 100000
namespace Mine
section
variable {prog : Program} {w : World} {A : Around} {E : Value → Shared → Prop} {s : Shared}
-- a set made of the strs of `l`
def StrSetOf (prog : Program) (w : World) (o : Obj) (l : List Str) : Prop :=
  ∃ es ep t, StrSet prog w o es ep t ∧ es.size ≤ l.length ∧ ∀ k, k ∈ l ↔ ∃ e ∈ es.toList, Value.isStrOf k e.2 = true
theorem StrSetOf.setOf {o : Obj} {l : List Str} {h : Heap} {a : Addr} (x : StrSetOf prog w o l) (ho : h.get? a = some o) : ∃ n, h.SetOf (strKind prog w) a (fun k => decide (k ∈ l)) n :=
  let ⟨es, ep, t, S, _, m⟩ := x
  ⟨es.size, o, es, ep, t, ho, S.exact, S.data, S.elems, fun k => by rw [decide_eq_true_iff]; exact m k, S.room, S.fits, rfl⟩
def fresh0 (w : World) : Obj := { cls := .type "set", dict := none, data := .set #[] 0 (.fresh 0 0 (!w.params.followText "set-order")) }
theorem strSet_fresh : StrSetOf prog w (fresh0 w) [] :=
  ⟨#[], 0, _, ⟨⟨rfl, rfl, rfl⟩, rfl, (fun e he => by simp at he), by decide, rfl, by
    show _ ∨ ((!w.params.followText "set-order") = true ∧ _)
    cases w.params.followText "set-order"
    · exact .inr ⟨rfl, .inr rfl⟩
    · exact .inl rfl⟩, Nat.le_refl _, fun k => by simp⟩
theorem laid_led {t : SetTable} {es : Array (Int × Value)} {h : Int} {x : Value} : (layNew t es h x).2.1.led = t.led := by
  unfold layNew
  split
  · simp only [SetTable.put, SetTable.orStandIn]
    split <;> split <;> rfl
  · rfl
theorem relaid_led {t t' : SetTable} {hs : Array Int} {n : Nat} {o : Array Nat} (h : t.relaid hs n = some (t', o)) : t'.led = t.led ∧ t'.plain = t.plain := by
  unfold SetTable.relaid SetTable.laid at h
  simp only [bind, Option.bind] at h
  split at h
  · cases h
  · simp only [pure, Option.some.injEq, Prod.mk.injEq] at h
    obtain ⟨h, _⟩ := h
    subst h
    exact ⟨rfl, rfl⟩
theorem relay_led {t : SetTable} {es : Array (Int × Value)} {n : Nat} : (relayAll t es n).2.1.led = t.led ∧ (t.plain = false → (relayAll t es n).2.1.plain = false) := by
  unfold relayAll
  split
  · rename_i t' order hr
    obtain ⟨h1, h2⟩ := relaid_led hr
    dsimp only
    split
    · exact ⟨h1, fun h => h2.trans h⟩
    · exact ⟨rfl, fun _ => rfl⟩
  · exact ⟨rfl, fun _ => rfl⟩
theorem store_str {a : Addr} {o : Obj} {es es' : Array (Int × Value)} {ep : Nat} {t t' : SetTable} {Q : Unit → Shared → Prop} (ho : s.heap.get? a = some o) (hex : o.ExactSet) (hd : o.data = .set es ep t) (hz : es'.size < scanBound)
    (h : ∀ h' o', h'.get? a = some o' → o'.ExactSet → o'.data = .set es' (ep + 1) t' → Heap.SameBut a s.heap h' → Q () { s with heap := h' }) : wpAny (model prog w) A (storeSet a es' t') Q E s := by
  have e := putSet_of es' t' hd
  have hg := Heap.get?_update_self (Obj.putSet es' t') ho (by rw [e]; rfl)
  rw [e] at hg
  exact wpAny_storeSet_of ho hd (h _ _ hg hex rfl (Heap.SameBut.update ..)) (fits_of_scanBound hz)
theorem gw (b : Bool) {Q' : Unit → Shared → Prop} (h : Q' () s) : wpAny (model prog w) A (match b with | true => rule "set.scan.the-table-gave-way" | false => pure ()) Q' E s := by
  cases b
  · exact wpAny_pure h
  · exact wpAny_rule h
theorem add_str {a : Addr} {o : Obj} {l : List Str} {k : Str} {u : Tok} {Q : Bool → Shared → Prop} (ho : s.heap.get? a = some o) (hS : StrSetOf prog w o l) (hroom : l.length + 1 < scanBound)
    (h : ∀ b h' o', Heap.SameBut a s.heap h' → h'.get? a = some o' → StrSetOf prog w o' (l ++ [k]) → Q b { s with heap := h' }) :
    wpAny (model prog w) A (setAddHashed a (.str k u) ((strKind prog w).hash k)) Q E s := by
  obtain ⟨es, ep, t, S, hz, hm⟩ := hS
  have hkey : (strKind prog w).is k (.str k u) = true := by show Value.isStrOf k (.str k u) = true; simp [Value.isStrOf]
  unfold setAddHashed setAddHashedIn
  refine wpAny_holding (wpAny_bind (wpAny_setState_of ho S.data S.fits ?_))
  dsimp only
  rw [byScan_of (knd := strKind prog w) rfl S.room S.elems, if_pos rfl]
  unfold setAddByScan
  refine wpAny_bind (wpAny_bind (wpAny_rule (wpAny_bind (wpAny_setScan_of hkey ho S.data S.fits S.elems ?_))))
  cases hr : es.toList.findIdx? (fun e => (strKind prog w).is k e.2) with
  | some j =>
    obtain ⟨hj, hpj, _⟩ := List.findIdx?_eq_some_iff_getElem.mp hr
    have hk : k ∈ l := (hm k).mpr ⟨_, List.getElem_mem hj, hpj⟩
    refine wpAny_pure (wpAny_pure ?_)
    refine h _ s.heap o (Heap.SameBut.refl a s.heap) ho ⟨es, ep, t, S, by rw [List.length_append]; omega, fun k' => ?_⟩
    rw [← hm k', List.mem_append, List.mem_singleton]
    exact ⟨fun h => h.elim id fun e => e ▸ hk, .inl⟩
  | none =>
    dsimp only
    have hperm := layNew_perm t es ((strKind prog w).hash k) (.str k u)
    have hfits := layNew_fits t es ((strKind prog w).hash k) (.str k u)
    have hled := @laid_led t es ((strKind prog w).hash k) (.str k u)
    generalize layNew t es ((strKind prog w).hash k) (.str k u) = L at hperm hfits hled ⊢
    obtain ⟨es1, t1, wasDummy, gave⟩ := L
    dsimp only at hperm hfits hled ⊢
    rw [Array.toList_push] at hperm
    have hel1 : ElemsOf (strKind prog w) es1.toList := (S.elems.push hkey rfl).perm hperm
    have hsz1 : es1.size = es.size + 1 := by rw [← Array.length_toList, hperm.length_eq, List.length_append, Array.length_toList]; rfl
    have hb1 : es1.size < scanBound := by rw [hsz1]; omega
    have hm1 : ∀ k', k' ∈ l ++ [k] ↔ ∃ e ∈ es1.toList, Value.isStrOf k' e.2 = true := fun k' => by
      rw [List.mem_append, List.mem_singleton, hm k']
      constructor
      · rintro (⟨e, he, q⟩ | rfl)
        · exact ⟨e, hperm.mem_iff.mpr (List.mem_append_left _ he), q⟩
        · exact ⟨_, hperm.mem_iff.mpr (List.mem_append_right _ (List.mem_singleton.mpr rfl)), hkey⟩
      · rintro ⟨e, he, q⟩
        rcases List.mem_append.mp (hperm.mem_iff.mp he) with he | he
        · exact .inl ⟨e, he, q⟩
        · rw [List.mem_singleton] at he; subst he
          exact .inr (Value.isStrOf_inj _ k' k q hkey)
    refine wpAny_bind (gw _ ?_)
    have go : ∀ {A : Around} (t2 : SetTable), t2.fits es1.size = true → t2.led = t.led → t2.plain = false → wpAny (model prog w) A (do
        storeSet a es1 t2
        if (!wasDummy && t2.tooFull) = true then do
            (match (relayAll t2 es1 (SetTable.grown es1.size)).2.2 with | true => rule "set.scan.the-table-gave-way" | false => pure ())
            storeSet a (relayAll t2 es1 (SetTable.grown es1.size)).1 (relayAll t2 es1 (SetTable.grown es1.size)).2.1
            pure (some true)
          else pure (some true)) (fun a_1 s' => wpAny (model prog w) A (match a_1 with
        | some added => pure added
        | none => setAddHashedIn a (Value.str k u) ((strKind prog w).hash k) 99999) Q E s') E s := fun {A} t2 hf2 hl2 hp2 => by
      have good : w.params.followText "set-order" = true ∨ t2.led = true := S.led.elim .inl fun h => .inr (hl2.trans h.1)
      refine wpAny_bind (store_str ho S.exact S.data hb1 fun h1 o1 ho1 hex1 hd1 hs1 => ?_)
      split
      · obtain ⟨hq1, hq2⟩ := @relay_led t2 es1 (SetTable.grown es1.size)
        have hp2' := relayAll_perm t2 es1 (SetTable.grown es1.size)
        have hf3 := relayAll_fits t2 es1 (SetTable.grown es1.size)
        generalize relayAll t2 es1 (SetTable.grown es1.size) = Rl at hp2' hf3 hq1 hq2 ⊢
        obtain ⟨es2, t3, gave2⟩ := Rl
        dsimp only at hp2' hf3 hq1 hq2 ⊢
        have hsz2 : es2.size = es1.size := by rw [← Array.length_toList, hp2'.length_eq, Array.length_toList]
        have hb2 : es2.size < scanBound := by rw [hsz2]; exact hb1
        refine wpAny_bind (gw gave2 ?_)
        refine wpAny_bind (store_str (s := { s with heap := h1 }) ho1 hex1 hd1 hb2 fun h2 o2 ho2 hex2 hd2 hs2 => ?_)
        refine wpAny_pure (wpAny_pure (h _ _ _ (hs1.trans hs2) ho2 ⟨es2, _, t3, ⟨hex2, hd2, hel1.perm hp2', hb2, hf3, good.elim .inl fun h => .inr ⟨hq1.trans h, .inl (hq2 hp2)⟩⟩, by rw [List.length_append, List.length_singleton]; omega, fun k' => (hm1 k').trans ⟨fun ⟨e, he, q⟩ => ⟨e, hp2'.mem_iff.mpr he, q⟩, fun ⟨e, he, q⟩ => ⟨e, hp2'.mem_iff.mp he, q⟩⟩⟩))
      · refine wpAny_pure (wpAny_pure (h _ _ _ hs1 ho1 ⟨es1, _, t2, ⟨hex1, hd1, hel1, hb1, hf2, good.elim .inl fun h => .inr ⟨h, .inl hp2⟩⟩, by rw [List.length_append, List.length_singleton]; omega, hm1⟩))
    cases hpl : t1.plain with
    | true =>
      rw [if_pos rfl]
      refine wpAny_bind ?_
      rw [hashByValue_scannable 8 rfl]
      refine wpAny_pure ?_
      exact go _ (by rw [show plainKind (.str k u) = false from rfl, if_neg Bool.false_ne_true]; exact SetTable.fits_plain_off hfits) (by rw [show plainKind (.str k u) = false from rfl, if_neg Bool.false_ne_true]; exact hled) (by rw [show plainKind (.str k u) = false from rfl, if_neg Bool.false_ne_true])
    | false =>
      rw [if_neg Bool.false_ne_true]
      refine wpAny_bind (wpAny_pure ?_)
      rw [if_pos rfl]
      exact go _ hfits hled hpl
end
end Mine
end
section
open PySem PySem.W PySem.Calls PyProof.Rows
set_option maxRecDepth 100000
namespace Mine
section
variable {prog : Program} {w : World} {A : Around} {E : Value → Shared → Prop} {s : Shared} {R : Result → Shared → Prop}
theorem upto_succ (bf : Nat → Str) (i : Nat) : (List.range (i + 1)).map bf = (List.range i).map bf ++ [bf i] := by
  rw [List.range_succ, List.map_append]; rfl
theorem update_strs {I : Addr} {fp wr : List Addr} {n : Nat} {P : Nat → Value → Prop} {St : Nat → Heap → Prop} (W : Walks prog w A.in1 I fp wr n P St) (S : Addr) (hSf : S ∉ fp) (bf : Nat → Str) (hP : ∀ i v, P i v → ∃ t, v = .str (bf i) t) (hn : n + 1 < scanBound) :
    ∀ (k i : Nat) (s : Shared) (o : Obj), n - i = k → i ≤ n → St i s.heap → s.heap.get? S = some o → StrSetOf prog w o ((List.range i).map bf) →
      (∀ h' tk o', (∀ b o, b ≠ S → b ∉ wr → s.heap.get? b = some o → h'.get? b = some o) → h'.get? S = some o' → StrSetOf prog w o' ((List.range n).map bf) → R (.ok (.ret .none)) { s with heap := h', toks := tk }) →
      codeAny (model prog w) A (.builtin "set.update.loop" ⟨[.ref S, .ref I], []⟩) R s := by
  have hSw : S ∉ wr := fun h => hSf (W.sub _ h)
  intro k
  induction k with
  | zero =>
    intro i s o hk hi hst hS hso hR
    have e : i = n := by omega
    subst e
    refine codeAny_builtin PyProof.Rows.F.entry_set_update_loop ?_
    rw [Around.under_plainId PyProof.Rows.F.plain_set_update_loop _]
    show wpAny _ A.in1 (pyNext (.ref I) >>= _) _ _ s
    refine wpAny_bind (W.done s _ _ hst fun h' tk hk' => ?_)
    show wpAny _ A.in1 (ret Value.none) _ _ _
    exact wpAny_pure (hR h' tk o (fun b o' hb hw e => hk' b o' hw e) (hk' S o hSw hS) hso)
  | succ k ih =>
    intro i s o hk hi hst hS hso hR
    have hlt : i < n := by omega
    refine codeAny_builtin PyProof.Rows.F.entry_set_update_loop ?_
    rw [Around.under_plainId PyProof.Rows.F.plain_set_update_loop _]
    show wpAny _ A.in1 (pyNext (.ref I) >>= _) _ _ s
    refine wpAny_bind (W.item i s _ _ hlt hst fun v h1 tk1 hv hst1 hk1 => ?_)
    obtain ⟨t, rfl⟩ := hP i v hv
    show wpAny _ A.in1 (holding [Value.str (bf i) t] (setAdd S (.str (bf i) t)) >>= _) _ _ _
    refine wpAny_bind (wpAny_holding ?_)
    unfold setAdd
    refine wpAny_holding ?_
    have hkey : (strKind prog w).is (bf i) (.str (bf i) t) = true := by show Value.isStrOf _ (.str _ t) = true; simp [Value.isStrOf]
    refine wpAny_bind ((strKind prog w).pyHash hkey ?_)
    refine add_str (s := { s with heap := h1, toks := tk1 + 1 }) (hk1 S o hSw hS) hso (by rw [List.length_map, List.length_range]; omega) fun b h2 o2 hsb hS2 hso2 => ?_
    rw [← upto_succ] at hso2
    refine wpAny_pure ⟨plainId_quiet PyProof.Rows.F.plain_set_update_loop _, ih (i + 1) _ o2 (by omega) hlt (W.frame _ _ _ hst1 fun b hb o' e => hsb.extBut b o' (fun h : b = S => hSf (h ▸ hb)) e) hS2 hso2 fun h3 tk3 o3 hk3 hS3 hso3 => ?_⟩
    exact hR h3 tk3 o3 (fun b o' hb hw e => hk3 b o' hb hw (hsb.extBut b o' hb (hk1 b o' hw e))) hS3 hso3
theorem sub_set_self' : isSubtype (.type "set") (.type "set") = pure true := by rw [isSubtype_type]; kernel_rfl
theorem set_new1 (a : Value) {Q₁ : Value → Shared → Prop} (h : Q₁ (.ref s.heap.objs.size) { s with heap := s.heap.push (fresh0 w) }) :
    codeAny (model prog w) A (.call (.builtin "set.__new__") ⟨[.type "set", a], []⟩) (wants Q₁ E) s := by
  refine codeAny_of_tree ?_
  show wpAny _ A.in1 (do checkBuiltinCall "set.__new__" ⟨[.type "set", a], []⟩; again (.builtin "set.__new__" ⟨[.type "set", a], []⟩)) _ _ s
  refine wpAny_bind (wpAny_of_eq (PySem.F.newCall_set_1 a) (wpAny_pure ⟨plainId_quiet PySem.F.plain_set_new _, codeAny_builtin PySem.F.entry_set_new ?_⟩))
  rw [Around.under_plainId PySem.F.plain_set_new _]
  unfold Builtin.«set.__new__» Builtin.Frozenset.newClass
  have hsub := sub_set_self
  obtain ⟨hp, g, d, tk, os⟩ := s
  dsimp only
  wp_walk
  refine wpAny_askSetting (wpAny_pure ?_)
  dsimp only
  simp only [newObj]
  refine wpAny_bind (wpAny_alloc (wpAny_pure ?_))
  exact wpAny_pure h
theorem set_new0 {Q₁ : Value → Shared → Prop} (h : Q₁ (.ref s.heap.objs.size) { s with heap := s.heap.push (fresh0 w) }) :
    codeAny (model prog w) A (.call (.builtin "set.__new__") ⟨[.type "set"], []⟩) (wants Q₁ E) s := by
  refine codeAny_of_tree ?_
  show wpAny _ A.in1 (do checkBuiltinCall "set.__new__" ⟨[.type "set"], []⟩; again (.builtin "set.__new__" ⟨[.type "set"], []⟩)) _ _ s
  refine wpAny_bind (wpAny_of_eq PySem.F.newCall_set_0 (wpAny_pure ⟨plainId_quiet PySem.F.plain_set_new _, codeAny_builtin PySem.F.entry_set_new ?_⟩))
  rw [Around.under_plainId PySem.F.plain_set_new _]
  unfold Builtin.«set.__new__» Builtin.Frozenset.newClass
  have hsub := sub_set_self
  obtain ⟨hp, g, d, tk, os⟩ := s
  dsimp only
  wp_walk
  refine wpAny_askSetting (wpAny_pure ?_)
  dsimp only
  simp only [newObj]
  refine wpAny_bind (wpAny_alloc (wpAny_pure ?_))
  exact wpAny_pure h
end
end Mine
end
section
open PySem PySem.W PySem.Calls PyProof.Rows
set_option maxRecDepth 100000
namespace Mine
section
variable {prog : Program} {w : World} {A : Around} {E : Value → Shared → Prop} {s : Shared} {R : Result → Shared → Prop}
set_option maxHeartbeats 4000000
theorem quiet_tc (args : Args) : (Code.builtin "type.__call__" args).quiet = true := Code.quiet_builtin args (by decide +kernel)
-- what is left of a call of set once the object stands
def setMade (w : World) (s : Shared) : Shared := { s with heap := s.heap.push (fresh0 w) }
theorem made_get : (setMade w s).heap.get? s.heap.objs.size = some (fresh0 w) := Heap.get?_push_size _ rfl
theorem call_set0 {Q : Value → Shared → Prop} (h : Q (.ref s.heap.objs.size) (setMade w s)) : wpAny (model prog w) A (call (.type "set") []) Q E s := by
  obtain ⟨c, tl, hmro⟩ := PySem.F.called_set.mro
  have hmade := PySem.F.called_set.made
  have hsub := PySem.F.called_set.sub
  refine wpAny_call (codeAny_of_tree ?_)
  show wpAny _ _ (callAny (.type "set") _) _ _ _
  refine wpAny_pure ⟨quiet_tc _, codeAny_builtin PySem.F.entry_type_call ?_⟩
  rw [Around.under_plain (weight_type_call_type "set" [] []) rfl]
  have h1 := PySem.F.called_set.notType
  have h2 := PySem.F.called_set.canCreate
  have hct := PySem.F.typeCall_set_0
  repeat (any_goals (first | assumption | wp_step))
  refine codeAny_mono (set_new0 (E := E) (Q₁ := fun obj s₁ => obj = .ref s.heap.objs.size ∧ s₁ = setMade w s) ⟨rfl, rfl⟩) fun r s₁ hr => ?_
  match r, hr with
  | .error e, hr => exact hr
  | .ok (.ret obj), hr =>
    obtain ⟨rfl, rfl⟩ := hr
    have hT : Shared.TypeIs (setMade w s) (.ref s.heap.objs.size) "set" := ⟨_, made_get, rfl⟩
    have hli := PySem.F.called_set.init.lookup
    have hbi := PySem.F.called_set.init.bind (.ref s.heap.objs.size)
    repeat (any_goals (first | assumption | wp_step))
    refine codeAny_mono (codeAny_call_builtin (R := wants (fun r s₂ => r = .none ∧ Q (.ref s.heap.objs.size) s₂) E) PySem.F.called_set.init.plain PySem.F.entry_set_init (check_set_init hT ?_)) fun r₂ s₂ hr₂ => ?_
    · have hS1 := @made_get w s
      unfold fresh0 at hS1
      unfold Builtin.«set.__init__» noKeywords
      wp_walk
      exact ⟨rfl, h⟩
    · match r₂, hr₂ with
      | .error e, hr₂ => exact hr₂
      | .ok (.ret r), hr₂ =>
        obtain ⟨rfl, hq⟩ := hr₂
        repeat (any_goals (first | assumption | wp_step))
theorem call_setL {l : Addr} {items : Array Value} (bf : Nat → Str) {Q : Value → Shared → Prop} (hh : A.handled = none) (hl : s.heap.IsList l items) (hi : ∀ (i : Nat) (v : Value), items[i]? = some v → ∃ t, v = .str (bf i) t) (hb : items.size + 1 < scanBound)
    (h : ∀ h' tk o, (∀ b o, s.heap.get? b = some o → h'.get? b = some o) → h'.get? s.heap.objs.size = some o → StrSetOf prog w o ((List.range items.size).map bf) → Q (.ref s.heap.objs.size) { s with heap := h', toks := tk }) :
    wpAny (model prog w) A (call (.type "set") [.ref l]) Q E s := by
  obtain ⟨c, tl, hmro⟩ := PySem.F.called_set.mro
  have hmade := PySem.F.called_set.made
  have hsub := PySem.F.called_set.sub
  refine wpAny_call (codeAny_of_tree ?_)
  show wpAny _ _ (callAny (.type "set") _) _ _ _
  refine wpAny_pure ⟨quiet_tc _, codeAny_builtin PySem.F.entry_type_call ?_⟩
  rw [Around.under_plain (weight_type_call_type "set" [.ref l] []) rfl]
  have h1 := PySem.F.called_set.notType
  have h2 := PySem.F.called_set.canCreate
  have hct := PySem.F.typeCall_set_1 (.ref l)
  repeat (any_goals (first | assumption | wp_step))
  refine codeAny_mono (set_new1 (.ref l) (E := E) (Q₁ := fun obj s₁ => obj = .ref s.heap.objs.size ∧ s₁ = setMade w s) ⟨rfl, rfl⟩) fun r s₁ hr => ?_
  match r, hr with
  | .error e, hr => exact hr
  | .ok (.ret obj), hr =>
    obtain ⟨rfl, rfl⟩ := hr
    have hT : Shared.TypeIs (setMade w s) (.ref s.heap.objs.size) "set" := ⟨_, made_get, rfl⟩
    have hli := PySem.F.called_set.init.lookup
    have hbi := PySem.F.called_set.init.bind (.ref s.heap.objs.size)
    repeat (any_goals (first | assumption | wp_step))
    refine codeAny_mono (codeAny_call_builtin (R := wants (fun r s₂ => r = .none ∧ Q (.ref s.heap.objs.size) s₂) E) PySem.F.called_set.init.plain PySem.F.entry_set_init (check_set_init_1 hT ?_)) fun r₂ s₂ hr₂ => ?_
    · obtain ⟨ol, hol, hcl, nl, hdl⟩ := id hl
      obtain ⟨ocls, odict, odata, oslots⟩ := ol
      simp only at hcl hdl
      subst hcl; subst hdl
      have hlt : l < s.heap.objs.size := Heap.lt_size hol
      have hl1 : (setMade w s).heap.IsList l items := hl.push _
      have hol' : (setMade w s).heap.get? l = some { cls := .type "list", dict := odict, data := .seq items nl, slots := oslots } := Heap.get?_push_of_some _ hol
      have hsz1 : (setMade w s).heap.objs.size = s.heap.objs.size + 1 := Heap.size_push _ _
      have hsls := PySem.F.sub_list_set
      have hslf := PySem.F.sub_list_frozenset
      have hne : (Value.type "list" == Value.type "dict") = false := by decide
      have hS1 := @made_get w s
      unfold fresh0 at hS1
      unfold Builtin.«set.__init__» noKeywords Builtin.Frozenset.updateFrom
      generalize hPI : pyIter = PI
      wp_walk
      subst hPI
      refine wpAny_pyIter_list hl1 ?_
      refine wpAny_bind (wpAny_runValue ?_)
      have hh3 : A.in1.in1.in1.handled = none := by simp [hh]
      have hneI : l ≠ (setMade w s).heap.objs.size := by rw [hsz1]; exact Nat.ne_of_lt (Nat.lt_succ_of_lt hlt)
      have hneS : s.heap.objs.size ≠ (setMade w s).heap.objs.size := by rw [hsz1]; exact Nat.ne_of_lt (Nat.lt_succ_self _)
      refine update_strs (Walks.list hh3 _ l hneI items) s.heap.objs.size ?_ bf hi hb (items.size - 0) 0 _ (fresh0 w) rfl (Nat.zero_le _) ⟨⟨_, Heap.get?_push_size _ rfl, rfl, rfl⟩, hl1.push _⟩ (Heap.get?_push_of_some _ made_get) strSet_fresh ?_
      · intro hm
        rcases List.mem_cons.mp hm with e | hm
        · exact hneS e
        · exact Nat.ne_of_gt hlt (List.mem_singleton.mp hm)
      · intro h' tk o' hk hS' hso'
        refine wpAny_pure ?_
        show wpAny _ _ (ret Value.none) _ _ _
        refine wpAny_pure ⟨rfl, h h' tk o' (fun b o e => ?_) hS' hso'⟩
        have hb := Heap.lt_size e
        refine hk b o (Nat.ne_of_lt hb) (fun hm => ?_) (Heap.get?_push_of_some _ (Heap.get?_push_of_some _ e))
        rw [List.mem_singleton, hsz1] at hm
        exact Nat.ne_of_lt (Nat.lt_succ_of_lt hb) hm
    · match r₂, hr₂ with
      | .error e, hr₂ => exact hr₂
      | .ok (.ret r), hr₂ =>
        obtain ⟨rfl, hq⟩ := hr₂
        repeat (any_goals (first | assumption | wp_step))
end
end Mine
end
section
open PySem PySem.W PySem.Calls PyProof.Rows
set_option maxRecDepth 100000
namespace Mine
-- a call of a def that sees a ledger of its own
theorem enterH {prog : Program} {w : World} {A : Around} {s : Shared} {K : Frag} {p : Program} {loose : List Str} {mean : ExcName → Option Value} {mg mb : Str → Option Value} {h₀ : Heap} {news : List (Addr × Obj)}
    {R : Result → Shared → Prop} {name qual : Str} {params : Arguments} {body : List Stmt} {scope : Scope} {dV kV doc pm cdv ct oc : Value} {an od : Option Addr} {osl : Array (Option Value)} {f : Addr} {args : Args} (binds : List (Str × Value))
    (hk : ∀ b o, h₀.get? b = some o → s.heap.get? b = some o) (N : ∀ q ∈ news, s.heap.get? q.1 = some q.2 ∧ h₀.get? q.1 = none) (X : K.In h₀) (T : Top p loose mean mg mb h₀) (hroom : A.depth < recursionLimit)
    (ho : K.lookup f = some ⟨oc, od, .func (fnOf name qual params body scope dV kV doc pm an cdv ct), osl⟩) (hcd : codeIn K cdv qual = true)
    (hbind : BindsTo s (fnOf name qual params body scope dV kV doc pm an cdv ct) args binds) (hloc : ∀ y ∈ binds, scope.names.lookup y.1 = some .local)
    (h : ∀ g h₁, Fr g s.heap.objs.size h₁ (fun y => binds.reverse.lookup y) → News g s.heap.objs.size h₁ news → K.In g → Top p loose mean mg mb g → (∀ b o, s.heap.get? b = some o → b ∉ news.map (·.1) → g.get? b = some o) →
      wpAny (model prog w) (A.deeper (envOf qual scope s.heap.objs.size f cdv)) (execs body (envOf qual scope s.heap.objs.size f cdv))
        (fun fl s' => R (.ok (.ret (match fl with | .ret v => v | _ => .none))) s') (fun _ _ => False)
        { s with heap := h₁, toks := s.toks + binds.length })
    (hco : scope.isCoroutine = false) (hgen : scope.isGenerator = false) (hkk : scope.kind = .function)
    (hcell : ∀ x ∈ scope.names, x.2 ≠ .cell) : codeAny (model prog w) A (.call (.ref f) args) R s := by
  refine codeAny_call_def (fd := fnOf name qual params body scope dV kV doc pm an cdv ct) (body := body) (binds := binds) hroom ((X.keeps hk) _ _ ho) rfl (T.nolimit.keeps hk) (codeRec_of (X.keeps hk) hcd) rfl hbind hcell hloc (fun h₁ hns hk₁ => ?_) hco hgen hkk
  have nm : ∀ b o, h₀.get? b = some o → b ∉ news.map (·.1) := fun b o e q => by
    obtain ⟨p, hp, rfl⟩ := List.mem_map.mp q
    rw [(N p hp).2] at e; cases e
  have st : h₀.StaysIn (hideAll s.heap (news.map (·.1))) := fun b o e => hideAll_get _ (hk b o e) (nm b o e)
  exact wpAny_mono (h (hideAll s.heap (news.map (·.1))) h₁ ⟨hns, fun b o e => hk₁ b o (of_hideAll _ e), Nat.le_of_eq (hideAll_size _ _)⟩
    (fun p hp => ⟨hk₁ _ _ (N p hp).1, Nat.ne_of_lt (Heap.lt_size (N p hp).1), hideAll_none _ (List.mem_map_of_mem hp)⟩) (X.keeps fun b o e => st b o e) (T.keeps fun b o e => st b o e) (fun b o e hn => hideAll_get _ e hn)) (fun fl s' hl => hl) fun _ _ y => y.elim
end Mine
end
section
open PySem PySem.W PySem.Calls PyProof.Rows
set_option maxRecDepth 100000
namespace Mine
-- what the memory of a reader tells: of no str more than n
def Seen (prog : Program) (w : World) (o : Obj) (n : Nat) (g : Str → Option Int) : Prop :=
  ∃ kvs, o.IsDictOf (strKind prog w) kvs ∧ kvs.length ≤ n ∧ ∀ k, (g k = none → valueAt kvs k = none) ∧ (∀ b, g k = some b → ∃ t, valueAt kvs k = some (.int b t))
def put (g : Str → Option Int) (k : Str) (b : Int) : Str → Option Int := fun x => if x = k then some b else g x
section
variable {prog : Program} {w : World} {A : Around} {E : Value → Shared → Prop} {s : Shared} {h₀ : Heap} {L : Addr} {m : Str → Option Value} {news : List (Addr × Obj)} {ig : Addr} {o : Obj} {n : Nat} {g : Str → Option Int} {k : Str} {t : Tok}
theorem isK : (strKind prog w).is k (.str k t) = true := by show Value.isStrOf k (.str k t) = true; simp [Value.isStrOf]
theorem seen_in {Q : Value → Shared → Prop} (N : News h₀ L s.heap news) (hm : (ig, o) ∈ news) (S : Seen prog w o n g) (hd : (ig == sysModules) = false) (h : Q (.bool (g k).isSome) { s with toks := s.toks + 1 }) :
    wpAny (model prog w) A (compareOp .In (.str k t) (.ref ig)) Q E s := by
  obtain ⟨kvs, D, _, H⟩ := S
  refine wpAny_in_of (knd := strKind prog w) isK hd (Heap.dictOf_iff.mpr ⟨o, N.get hm, D⟩).mapOf ?_
  cases e : g k with
  | none => rw [(H k).1 e]; rw [e] at h; exact h
  | some b => obtain ⟨t, e'⟩ := (H k).2 b e; rw [e']; rw [e] at h; exact h
theorem seen_get {value slice : PySem.Expr} {b : Int} {Q : Value → Shared → Prop} (N : News h₀ L s.heap news) (hm : (ig, o) ∈ news) (S : Seen prog w o n g) (hb : g k = some b) (h : ∀ u, Q (.int b u) { s with toks := s.toks + 1 })
    (hs : subscripted slice false (.ref ig) (.str k t) = operate [.ref ig, .str k t] (getItem (.ref ig) (.str k t)) := by with_unfolding_all rfl) :
    wpAny (model prog w) A (subscriptTail value slice (.ref ig) (.str k t)) Q E s := by
  obtain ⟨kvs, D, _, H⟩ := S
  obtain ⟨u, e'⟩ := (H k).2 b hb
  have hD := Heap.dictOf_iff.mpr ⟨o, N.get hm, D⟩
  exact tail_any hD.typeIs slot_dict_getitem.lookup (wpAny_getItem_of (knd := strKind prog w) isK hD.mapOf e' (h u)) hs
theorem valueAt_stored {kvs : List (Str × Value)} {k x : Str} {v : Value} : valueAt (stored kvs k v) x = if x = k then some v else valueAt kvs x := by
  unfold valueAt stored
  by_cases hx : x = k
  · subst hx
    rw [if_pos rfl]
    by_cases ha : kvs.any (fun kv => kv.1 = x) = true
    · rw [if_pos ha]
      induction kvs with
      | nil => simp at ha
      | cons p r ih =>
        rw [List.map_cons, List.find?_cons]
        by_cases hp : p.1 = x
        · simp [hp]
        · rw [if_neg hp]
          have : (decide (p.1 = x)) = false := by simpa using hp
          rw [this]
          exact ih (by simpa [hp] using ha)
    · rw [if_neg ha, List.find?_append]
      have : kvs.find? (fun kv => decide (kv.1 = x)) = none := by
        rw [List.find?_eq_none]; intro p hp hq; apply ha; rw [List.any_eq_true]; exact ⟨p, hp, hq⟩
      rw [this]; simp
  · rw [if_neg hx]
    by_cases ha : kvs.any (fun kv => kv.1 = k) = true
    · rw [if_pos ha]
      clear ha
      induction kvs with
      | nil => rfl
      | cons p r ih =>
        rw [List.map_cons, List.find?_cons, List.find?_cons]
        by_cases hp : p.1 = k
        · rw [if_pos hp]
          have : decide (p.1 = x) = false := by rw [hp]; simpa using fun e => hx e.symm
          simp only [this]
          exact ih
        · rw [if_neg hp]
          cases decide (p.1 = x)
          · exact ih
          · rfl
    · rw [if_neg ha, List.find?_append]
      have : decide (k = x) = false := by simpa using fun e => hx e.symm
      cases kvs.find? (fun kv => decide (kv.1 = x)) <;> simp [this]
theorem seen_set {gg : Obj → List (Addr × Obj)} {b : Int} {u : Tok} {Q : Unit → Shared → Prop} (F : Fr h₀ L s.heap m) (N : News h₀ L s.heap news) (U : UpdF ig o news gg) (S : Seen prog w o n g) (hn : n ≤ 1000)
    (h : ∀ h' o', Fr h₀ L h' m → News h₀ L h' (gg o') → Seen prog w o' (n + 1) (put g k b) → Q () { s with heap := h', toks := s.toks + 1 }) :
    wpAny (model prog w) A (setItem (.ref ig) (.str k t) (.int b u)) Q E s := by
  obtain ⟨kvs, D, hl, H⟩ := S
  obtain ⟨own, rest, rfl, hg, h1, h2⟩ := U.split
  have hmem := N (ig, o) (List.mem_append_right _ (.head _))
  refine wpAny_setItem_pairs (knd := strKind prog w) (k := k) isK (Heap.dictOf_iff.mpr ⟨o, hmem.1, D⟩) (fun h' hd hs => ?_) (by rw [sizeLine_eq]; omega)
  obtain ⟨o', ho', D'⟩ := Heap.dictOf_iff.mp hd
  refine h h' o' ⟨F.ns.sameBut hs (Ne.symm hmem.2.1), fun b' ob e => (hs.2 b' (fun q => ?_)).trans (F.keep b' ob e), F.above⟩ (hg o' ▸ N.setAt h1 h2 hs ho') ⟨_, D', Nat.le_trans (stored_length_le _ _ _) (Nat.succ_le_succ hl), fun x => ?_⟩
  · rw [q, hmem.2.2] at e; cases e
  · rw [valueAt_stored]
    unfold put
    by_cases hx : x = k
    · rw [if_pos hx, if_pos hx]; exact ⟨(fun e => by cases e), fun b' e => ⟨u, by injection e with e; rw [e]⟩⟩
    · rw [if_neg hx, if_neg hx]; exact H x
end
end Mine
end
section
open PySem PySem.W PySem.Calls PyProof.Rows
set_option maxRecDepth 100000
namespace Mine
theorem offNC : True := by
  w_top off
  exact True.intro
abbrev slots3 (a1 a2 a3 : Int) (b1 b2 b3 : Tok) (ms ds ig : Addr) (n : Nat) : Obj := dictOf [⟨a1, .str (Str.ofString "_mods") b1, .ref ms⟩, ⟨a2, .str (Str.ofString "_dirs") b2, .ref ds⟩, ⟨a3, .str (Str.ofString "_ignore") b3, .ref ig⟩] n
-- what a reader that has not been asked a name says of it
def answer (M D : List Str) (f : Option Str) (mod : Str) : Int :=
  if mod ∈ M then 1 else if M.any (fun k => Txt.startswith mod (k ++ Str.ofString ".")) = true then 1 else match f with
    | none => 1
    | some f => if D.any (fun d => Txt.startswith f (d ++ Str.ofString "/")) = true then 1 else 0
def says (seen : Str → Option Int) (M D : List Str) (f : Option Str) (mod : Str) : Int := match seen mod with | some b => b | none => answer M D f mod
def optV : Option Str → Tok → Value
  | none, _ => .none
  | some f, t => .str f t
theorem set_in {prog : Program} {w : World} {A : Around} {E : Value → Shared → Prop} {s : Shared} {h₀ : Heap} {L : Addr} {news : List (Addr × Obj)} {ms : Addr} {o : Obj} {M : List Str} {k : Str} {t : Tok} {Q : Value → Shared → Prop} (N : News h₀ L s.heap news) (hm : (ms, o) ∈ news) (S : StrSetOf prog w o M)
    (h : Q (.bool (decide (k ∈ M))) { s with toks := s.toks + 1 }) : wpAny (model prog w) A (compareOp .In (.str k t) (.ref ms)) Q E s :=
  let ⟨_, hS⟩ := S.setOf (N.get hm)
  wpAny_inSet_of (knd := strKind prog w) isK rfl hS h
-- a loop whose turns keep the ledger, or leave
theorem loopAtR {prog : Program} {w : World} {A : Around} {E : Value → Shared → Prop} {h₀ : Heap} {m : Str → Option Value} {news : List (Addr × Obj)} {env : Env} {x : Str} {body : List Stmt} {Q : Flow → Shared → Prop} {I : Addr} {fp wr : List Addr} {n : Nat} {P : Nat → Value → Prop} {St : Nat → Heap → Prop} {s₂ : Shared}
    (W : Walks prog w A I fp wr n P St) (hLf : env.locals ∉ fp) (hwr : ∀ b ∈ wr, h₀.get? b = none) (hnw : ∀ p ∈ news, p.1 ∉ wr) (hst : St 0 s₂.heap)
    (F : Fr h₀ env.locals s₂.heap m) (N : News h₀ env.locals s₂.heap news) (J : Nat → (Str → Option Value) → Prop) (h0 : J 0 m)
    (step : ∀ i v m₁ (s₁ : Shared) own (Qs : Flow → Shared → Prop), (∃ h tk, s₁ = { s₂ with heap := h, toks := tk }) → i < n → P i v → J i m₁ → Fr h₀ env.locals s₁.heap (fun y => if y = x then some v else m₁ y) →
      News h₀ env.locals s₁.heap (own ++ news) → (∀ h' tk m₂, Fr h₀ env.locals h' m₂ → News h₀ env.locals h' (own ++ news) → J (i + 1) m₂ → Qs .next { s₁ with heap := h', toks := tk } ∧ Qs .cont { s₁ with heap := h', toks := tk }) →
      (∀ v s', Q (.ret v) s' → Qs (.ret v) s') → wpAny (model prog w) A (execs body env) Qs E s₁)
    (done : ∀ h' tk m', Fr h₀ env.locals h' m' → News h₀ env.locals h' news → J n m' → Q .next { s₂ with heap := h', toks := tk }) :
    LoopAtV prog w A h₀ env x body Q E (.ref I) s₂ := by
  refine ⟨I, fp, wr, n, P, St, m, news, fun i m' news' => J i m' ∧ news' = news, rfl, W, hLf, hwr, hnw, hst, F, N, ⟨h0, rfl⟩, ?_, ?_⟩
  · rintro i v m₁ news₁ s₁ own hs hi hP ⟨hJ, rfl⟩ _ _ _ _ _ F₁ N₁
    refine step i v m₁ s₁ own _ hs hi hP hJ F₁ N₁ (fun h' tk m₂ F₂ N₂ hJ₂ => ⟨?_, ?_⟩) (fun v s' hq => hq)
    · exact ⟨rfl, h', tk, m₂, news₁, rfl, F₂, N₂, hnw, hJ₂, rfl⟩
    · exact ⟨rfl, h', tk, m₂, news₁, rfl, F₂, N₂, hnw, hJ₂, rfl⟩
  · rintro h' tk m' news' F' N' _ ⟨hJ, rfl⟩
    exact done h' tk m' F' N' hJ
local macro_rules | `(tactic| walk_at "compareOp In str ref") => `(tactic| ((with_reducible rename News _ _ _ _ => NR); first
  | (refine' seen_in NR ?k1 ?k2 ?k3 ?_; (case k1 => k_mem); (case k2 => with_reducible assumption); (case k3 => with_reducible assumption))
  | (refine' set_in NR ?k1 ?k2 ?_; (case k1 => k_mem); (case k2 => with_reducible assumption))))
local macro_rules | `(tactic| walk_at "subscriptTail") => `(tactic| ((with_reducible show wpAny _ _ (subscriptTail _ _ (Value.ref _) (Value.str _ _)) _ _ _); (with_reducible rename News _ _ _ _ => NR); (refine' seen_get NR ?k1 ?k2 ?k3 ?_ ?k4; (case k1 => k_mem); (case k2 => with_reducible assumption); (case k3 => with_reducible assumption); (case k4 => with_unfolding_all rfl)); intro _))
local macro_rules | `(tactic| walk_at "ite") => `(tactic| first
  | refine ite_no (nof (by with_reducible assumption)) ?_
  | refine ite_yes (by with_reducible assumption) ?_
  | refine ite_yes (by k_dflt decide +kernel) ?_ | refine ite_no (by k_dflt decide +kernel) ?_)
section
variable {w : World} {dp un : Nat} {fr : Option (List Env)} {gd : Option (List Code)} {s : Shared} {loose : List Str} {mean : ExcName → Option Value} {mg mb : Str → Option Value} {R : Result → Shared → Prop}
  {Q E : Value → Shared → Prop} {h₀ : Heap} {L : Addr} {m : Str → Option Value} {news : List (Addr × Obj)}
theorem ledger_keep {h' g sh : Heap} {pre : List (Addr × Obj)} {ig : Addr} {oig : Obj} {h₀ : Heap} (N : ∀ q ∈ pre ++ [(ig, oig)], sh.get? q.1 = some q.2 ∧ h₀.get? q.1 = none)
    (hg : ∀ b o, sh.get? b = some o → b ∉ (pre ++ [(ig, oig)]).map (·.1) → g.get? b = some o) (hk : ∀ b o, g.get? b = some o → h'.get? b = some o) (hp : ∀ q ∈ pre, h'.get? q.1 = some q.2) :
    ∀ b o, b ≠ ig → sh.get? b = some o → h'.get? b = some o := by
  intro b o hb e
  by_cases hm : b ∈ pre.map (·.1)
  · obtain ⟨q, hq, rfl⟩ := List.mem_map.mp hm
    have := (N q (List.mem_append_left _ hq)).1
    rw [e] at this; injection this with this; rw [this]; exact hp q hq
  · refine hk b o (hg b o e ?_)
    rw [List.map_append, List.mem_append]
    rintro (h | h)
    · exact hm h
    · exact hb (List.mem_singleton.mp h)
local macro_rules | `(tactic| walk_at "setItem ref str") => `(tactic| ((with_reducible show wpAny _ _ (setItem (Value.ref _) (Value.str _ _) (Value.int _ _)) _ _ _); (with_reducible rename Fr _ _ _ _ => FR); (with_reducible rename News _ _ _ _ => NR); (refine' seen_set FR NR ?k1 ?k2 ?k3 ?_; (case k1 => exact .tail (by assumption) (.tail (by assumption) (.tail (by assumption) (.tail (by assumption) (.head (fun _ h => nomatch h)))))); (case k2 => with_reducible assumption); (case k3 => omega)); clear FR NR; intro h' o' F' N' S'))
theorem mapJ {p : Str} {v cv : Option Value} {m : Str → Option Value} : (fun y => if y = p then v else if y = p then cv else m y) = fun y => if y = p then v else m y := by
  funext y
  by_cases h : y = p
  · rw [if_pos h, if_pos h]
  · rw [if_neg h, if_neg h, if_neg h]
theorem mapJ0 {p : Str} {m : Str → Option Value} (h : m p = none) : m = fun y => if y = p then none else m y := by
  funext y
  by_cases e : y = p
  · rw [if_pos e, e, h]
  · rw [if_neg e]
set_option maxHeartbeats 2000000
theorem names {x dx ms ds ig : Addr} {oms oig : Obj} {dvs : List Value} {dc : Nat} {a1 a2 a3 : Int} {b1 b2 b3 : Tok} {n0 n : Nat} {f : Option Str} {tf : Tok} {mod : Str} {t : Tok} {M D : List Str} {seen : Str → Option Int}
    (hk : ∀ b o, h₀.get? b = some o → s.heap.get? b = some o) (N : ∀ q ∈ [(x, instObj 159 dx), (dx, slots3 a1 a2 a3 b1 b2 b3 ms ds ig n0), (ms, oms), (ds, ({ cls := .type "list", data := .seq dvs.toArray dc } : Obj)), (ig, oig)], s.heap.get? q.1 = some q.2 ∧ h₀.get? q.1 = none) (G : KT w loose mean mg mb h₀) (hdp : dp < 860) (hu : un < 160)
    (hM : StrSetOf PySem.Challenge.rw_il0011_01.row.prog w oms M) (hS : Seen PySem.Challenge.rw_il0011_01.row.prog w oig n seen) (hn : n < 1000) (hM1 : ∀ k ∈ M, k.length ≤ 100) (hD1 : ∀ k ∈ D, k.length ≤ 100) (hm1 : mod.length ≤ 100) (hf1 : ∀ g, f = some g → g.length ≤ 200) (hig : (ig == sysModules) = false)
    (hD : D.length = dvs.length ∧ ∀ (i : Nat) (v : Value), dvs[i]? = some v → ∃ (k : Str) (u : Tok), D[i]? = some k ∧ v = .str k u)
    (hx1 : x ≠ ig) (hx2 : dx ≠ ig) (hx3 : ms ≠ ig) (hx4 : ds ≠ ig)
    (hR : ∀ u h' tk d o', (∀ b o, b ≠ ig → s.heap.get? b = some o → h'.get? b = some o) → h'.get? ig = some o' → Seen PySem.Challenge.rw_il0011_01.row.prog w o' (n + 1) (put seen mod (says seen M D f mod)) → R (.ok (.ret (.int (says seen M D f mod) u))) { s with heap := h', toks := tk, drawn := d }) :
    codeAny (model PySem.Challenge.rw_il0011_01.row.prog w) (Ar dp un fr gd) (.call (.ref 156) ⟨[.ref x, optV f tf, .str mod t], []⟩) R s := by
  obtain ⟨X, T⟩ := G
  revert X; k_fill; intro X
  refine' enterH (K := hd.heap_39 w.params) [(Str.ofString "self", .ref x), (Str.ofString "filename", optV f tf), (Str.ofString "modulename", .str mod t)] hk N X T ?kd ?k6 ?k7 ?k9 ?kB ?_ ?c2 ?c3 ?c4 ?c5
  (((case k6 => k_is); (case kd => (simp only [recursionLimit] at *; omega)); (case k7 => k_is); (case k9 => exact BindsTo.of_eq rfl); (case c5 => decide); (case kB => exact locs rfl); (case c2 => exact rfl); (case c3 => exact rfl); (case c4 => exact rfl)))
  intro g h₁ F' N' X' T' hg
  have fin : ∀ h' m' o' (nw : List (Addr × Obj)), Fr g s.heap.objs.size h' m' → News g s.heap.objs.size h' (nw ++ [(x, instObj 159 dx), (dx, slots3 a1 a2 a3 b1 b2 b3 ms ds ig n0), (ms, oms), (ds, ({ cls := .type "list", data := .seq dvs.toArray dc } : Obj)), (ig, o')]) →
      (∀ b o, b ≠ ig → s.heap.get? b = some o → h'.get? b = some o) ∧ h'.get? ig = some o' := by
    intro h' m' o' nw FF NN
    refine ⟨ledger_keep (pre := [(x, instObj 159 dx), (dx, slots3 a1 a2 a3 b1 b2 b3 ms ds ig n0), (ms, oms), (ds, ({ cls := .type "list", data := .seq dvs.toArray dc } : Obj))]) N hg FF.keep fun q hq => (NN q (List.mem_append_right _ ?_)).1, (NN (ig, o') (by simp)).1⟩
    simp only [List.mem_cons, List.not_mem_nil, or_false] at hq ⊢
    rcases hq with h | h | h | h
    · exact .inl h
    · exact .inr (.inl h)
    · exact .inr (.inr (.inl h))
    · exact .inr (.inr (.inr (.inl h)))
  have hself : ∀ b, seen mod = some b → put seen mod b = seen := fun b e => by
    funext y; unfold put; by_cases hy : y = mod
    · rw [if_pos hy, hy, e]
    · rw [if_neg hy]
  cases hs : seen mod with
  | some b =>
    have hsome : (seen mod).isSome = true := by rw [hs]; rfl
    have hsay : says seen M D f mod = b := by unfold says; rw [hs]
    (repeat' (first | (k_unfold; (try dsimp only)) | walk1 | (dsimp only; walk1)))
    dsimp only
    rw [hsay] at hR
    obtain ⟨q1, q2⟩ := fin _ _ _ [] (by assumption) (by assumption)
    refine hR _ _ _ _ _ q1 q2 ?_
    rw [hself b hs]
    obtain ⟨kvs, D1, D2, D3⟩ := hS
    exact ⟨kvs, D1, Nat.le_succ_of_le D2, D3⟩
  | none =>
    have hnone : (seen mod).isSome = false := by rw [hs]; rfl
    have hsay : says seen M D f mod = answer M D f mod := by unfold says; rw [hs]
    rw [hsay] at hR
    clear hsay
    cases hmem : decide (mod ∈ M) with
    | true =>
      have ha : answer M D f mod = 1 := by unfold answer; rw [if_pos (of_decide_eq_true hmem)]
      rw [ha] at hR
      (repeat' (first | (k_unfold; (try dsimp only)) | walk1 | (dsimp only; walk1)))
      dsimp only
      (with_reducible rename Fr _ _ _ _ => FR); (with_reducible rename News _ _ _ _ => NR); (with_reducible rename Seen _ _ _ (_ + 1) _ => SR)
      obtain ⟨q1, q2⟩ := fin _ _ _ [] FR NR
      exact hR _ _ _ _ _ q1 q2 SR
    | false =>
      have hmem' : ¬ mod ∈ M := of_decide_eq_false hmem
      (repeat' (first | (k_unfold; (try dsimp only)) | ((fail_if_success (with_reducible show wpAny _ _ (exec (Stmt.For _ _ _ _ _) _) _ _ _)); walk1) | (dsimp only;  (fail_if_success (with_reducible show wpAny _ _ (exec (Stmt.For _ _ _ _ _) _) _ _ _)); walk1)))
      obtain ⟨es, ep, tt, SS, hz, hmm⟩ := id hM
      refine wpAny_mono (For_invV (E := fun _ _ => False) g rfl rfl ?_ (fun _ => rfl) PassesOwn.never) (fun _ _ x => x) (fun _ _ x => x.elim)
      (repeat' (first | (k_unfold; (try dsimp only)) | ((fail_if_success (with_reducible show wpAny _ _ (pyIter _) _ _ _)); walk1) | (dsimp only;  (fail_if_success (with_reducible show wpAny _ _ (pyIter _) _ _ _)); walk1)))
      (with_reducible rename Fr _ _ _ _ => FF); (with_reducible rename News _ _ _ _ => NF)
      refine iter_set rfl (NF.get (by k_mem)) SS ?_
      intro I fp vs St d h2 W st hfp hfp2 hI hk2 hperm
      have hvs : ∀ (v : Value), v ∈ vs → ∃ k u, v = .str k u ∧ k ∈ M := fun v hv => by
        obtain ⟨e, he, rfl⟩ := List.mem_map.mp (hperm.mem_iff.mp hv)
        obtain ⟨⟨k, hk, _⟩, _⟩ := SS.elems e he
        obtain ⟨u, hu⟩ := Value.isStrOf_shape hk
        exact ⟨k, u, hu, (hmm k).mpr ⟨e, he, hk⟩⟩
      have hcov : ∀ k, k ∈ M → ∃ u, Value.str k u ∈ vs := fun k hk => by
        obtain ⟨e, he, hke⟩ := (hmm k).mp hk
        obtain ⟨u, hu⟩ := Value.isStrOf_shape hke
        exact ⟨u, hperm.mem_iff.mpr (hu ▸ List.mem_map_of_mem he)⟩
      refine loopAtR W ?_ ?_ ?_ st (FF.after hk2) (NF.grown hk2) (fun i m' => (∃ cv, m' = fun y => if y = Str.ofString "mod" then cv else List.lookup y [(Str.ofString "self", Value.ref x), (Str.ofString "filename", optV f tf), (Str.ofString "modulename", Value.str mod t)].reverse) ∧ ∀ j k u, j < i → vs[j]? = some (Value.str k u) → Txt.startswith mod (k ++ Str.ofString ".") = false) ?_ ?_ ?_
      · intro hm
        rcases hfp _ hm with e | e
        · exact (NF _ (.tail _ (.tail _ (.head _)))).2.1 e.symm
        · obtain ⟨oL, _, _, hL, _⟩ := FF.ns
          rw [show (envOf (Str.ofString "_Ignore.names") _ s.heap.objs.size 156 (Value.ref 155)).locals = s.heap.objs.size from rfl] at e
          rw [hL] at e; cases e
      · intro b hb
        rw [List.mem_singleton.mp hb]
        cases e : g.get? I with
        | none => rfl
        | some o => rw [FF.keep _ _ e] at hI; cases hI
      · intro p hp hm
        rw [List.mem_singleton] at hm
        have := (NF p hp).1
        rw [hm, hI] at this; cases this
      · exact ⟨⟨none, mapJ0 rfl⟩, fun j k u hj => absurd hj (Nat.not_lt_zero _)⟩
      · rintro i v m₁ s₁ own Qs ⟨hh, tk, rfl⟩ hi hv ⟨⟨cv, rfl⟩, hJ⟩ F₁ N₁ hQ hret
        obtain ⟨k, u, rfl, hkM⟩ := hvs v (List.mem_of_getElem? hv)
        have hkl := hM1 k hkM
        clear FF NF
        cases hsw : Txt.startswith mod (k ++ Str.ofString ".") with
        | false =>
          (repeat' (first | (k_unfold; (try dsimp only)) | walk1 | (dsimp only; walk1)))
          (with_reducible rename Fr _ _ _ _ => FR); (with_reducible rename News _ _ _ _ => NR)
          refine (hQ _ _ _ FR NR ⟨⟨_, mapJ⟩, fun j k' u' hj hjk => ?_⟩).1
          rcases Nat.lt_succ_iff_lt_or_eq.mp hj with hj | rfl
          · exact hJ j k' u' hj hjk
          · rw [hv] at hjk; injection hjk with hjk; injection hjk with hjk; rw [← hjk]; exact hsw
        | true =>
          have N₂ : News g s.heap.objs.size hh [(x, instObj 159 dx), (dx, slots3 a1 a2 a3 b1 b2 b3 ms ds ig n0), (ms, oms), (ds, ({ cls := .type "list", data := .seq dvs.toArray dc } : Obj)), (ig, oig)] := fun p hp => N₁ p (List.mem_append_right _ hp)
          clear N₁
          have ha : answer M D f mod = 1 := by
            unfold answer
            rw [if_neg hmem', if_pos (List.any_eq_true.mpr ⟨k, hkM, hsw⟩)]
          rw [ha] at hR
          (repeat' (first | (k_unfold; (try dsimp only)) | walk1 | (dsimp only; walk1)))
          refine hret _ _ ?_
          dsimp only
          (with_reducible rename Fr _ _ _ _ => FR); (with_reducible rename News _ _ _ _ => NR); (with_reducible rename Seen _ _ _ (_ + 1) _ => SR)
          obtain ⟨q1, q2⟩ := fin _ _ _ [] FR NR
          exact hR _ _ _ _ _ q1 q2 SR
      · rintro h' tk m' F' N' ⟨⟨cv, rfl⟩, hJ⟩
        have hany : ¬ M.any (fun k => Txt.startswith mod (k ++ Str.ofString ".")) = true := fun hy => by
          obtain ⟨k, hk, hy⟩ := List.any_eq_true.mp hy
          obtain ⟨u, hu⟩ := hcov k hk
          obtain ⟨j, hj⟩ := List.getElem?_of_mem hu
          have hjl : j < vs.length := (List.getElem?_eq_some_iff.mp hj).1
          rw [hJ j k u hjl hj] at hy; cases hy
        clear FF NF
        cases f with
        | none =>
          have ha : answer M D none mod = 1 := by unfold answer; rw [if_neg hmem', if_neg hany]
          rw [ha] at hR
          dsimp only [optV] at F'
          (repeat' (first | (k_unfold; (try dsimp only)) | walk1 | (dsimp only; walk1)))
          dsimp only
          (with_reducible rename Fr _ _ _ _ => FR); (with_reducible rename News _ _ _ _ => NR); (with_reducible rename Seen _ _ _ (_ + 1) _ => SR)
          obtain ⟨q1, q2⟩ := fin _ _ _ [] FR NR
          exact hR _ _ _ _ _ q1 q2 SR
        | some fn =>
          dsimp only [optV] at F'
          have hfl := hf1 fn rfl
          (repeat' (first | (k_unfold; (try dsimp only)) | ((fail_if_success (with_reducible show wpAny _ _ (exec (Stmt.For _ _ _ _ _) _) _ _ _)); walk1) | (dsimp only;  (fail_if_success (with_reducible show wpAny _ _ (exec (Stmt.For _ _ _ _ _) _) _ _ _)); walk1)))
          refine wpAny_mono (For_invV (E := fun _ _ => False) g rfl rfl ?_ (fun _ => rfl) PassesOwn.never) (fun _ _ x => x) (fun _ _ x => x.elim)
          (repeat' (first | (k_unfold; (try dsimp only)) | ((fail_if_success (with_reducible show wpAny _ _ (pyIter _) _ _ _)); walk1) | (dsimp only;  (fail_if_success (with_reducible show wpAny _ _ (pyIter _) _ _ _)); walk1)))
          (with_reducible rename Fr _ _ _ _ => FF); (with_reducible rename News _ _ _ _ => NF)
          refine wpAny_pyIter_list (items := dvs.toArray) ⟨_, NF.get (.tail _ (.tail _ (.tail _ (.head _)))), rfl, _, rfl⟩ ?_
          refine loopAtR (Walks.list rfl _ _ ?_ dvs.toArray) ?_ ?_ ?_ ⟨⟨_, Heap.get?_push_size _ rfl, rfl, rfl⟩, ⟨_, Heap.get?_push_of_some _ (NF.get (.tail _ (.tail _ (.tail _ (.head _))))), rfl, _, rfl⟩⟩ (FF.push _) (fun p hp => (NF.push FF _) p (.tail _ hp))
            (fun i m' => (∃ cv cv2, m' = fun y => if y = Str.ofString "d" then cv2 else if y = Str.ofString "mod" then cv else List.lookup y [(Str.ofString "self", Value.ref x), (Str.ofString "filename", Value.str fn tf), (Str.ofString "modulename", Value.str mod t)].reverse) ∧ ∀ j k, j < i → D[j]? = some k → Txt.startswith fn (k ++ Str.ofString "/") = false) ?_ ?_ ?_
          · exact NF.apart _ (.tail _ (.tail _ (.tail _ (.head _))))
          · intro hm
            rcases List.mem_cons.mp hm with e | hm
            · exact Nat.lt_irrefl _ (Nat.lt_of_le_of_lt (Nat.le_of_eq e.symm) FF.ns.lt)
            · exact (NF _ (.tail _ (.tail _ (.tail _ (.head _))))).2.1 (List.mem_singleton.mp hm).symm
          · intro b hb
            rw [List.mem_singleton.mp hb]
            exact fresh_none FF
          · intro q hq hm
            exact NF.apart _ hq (List.mem_singleton.mp hm)
          · exact ⟨⟨cv, none, mapJ0 rfl⟩, fun j k hj => absurd hj (Nat.not_lt_zero _)⟩
          · rintro i v m₁ s₁ own Qs ⟨hh, tk, rfl⟩ hi hv ⟨⟨cv1, cv2, rfl⟩, hJ2⟩ F₁ N₁ hQ hret
            obtain ⟨k, u, hkD, rfl⟩ := hD.2 i v (by simpa using hv)
            have hkl := hD1 k (List.mem_of_getElem? hkD)
            clear FF NF
            cases hsw : Txt.startswith fn (k ++ Str.ofString "/") with
            | false =>
              (repeat' (first | (k_unfold; (try dsimp only)) | walk1 | (dsimp only; walk1)))
              (with_reducible rename Fr _ _ _ _ => FR); (with_reducible rename News _ _ _ _ => NR)
              refine (hQ _ _ _ FR NR ⟨⟨_, _, mapJ⟩, fun j k' hj hjk => ?_⟩).1
              rcases Nat.lt_succ_iff_lt_or_eq.mp hj with hj | rfl
              · exact hJ2 j k' hj hjk
              · rw [hkD] at hjk; injection hjk with hjk; rw [← hjk]; exact hsw
            | true =>
              have N₂ : News g s.heap.objs.size hh [(x, instObj 159 dx), (dx, slots3 a1 a2 a3 b1 b2 b3 ms ds ig n0), (ms, oms), (ds, ({ cls := .type "list", data := .seq dvs.toArray dc } : Obj)), (ig, oig)] := fun p hp => N₁ p (List.mem_append_right _ hp)
              clear N₁
              have ha : answer M D (some fn) mod = 1 := by
                unfold answer
                rw [if_neg hmem', if_neg hany]
                dsimp only
                rw [if_pos (List.any_eq_true.mpr ⟨k, List.mem_of_getElem? hkD, hsw⟩)]
              rw [ha] at hR
              (repeat' (first | (k_unfold; (try dsimp only)) | walk1 | (dsimp only; walk1)))
              refine hret _ _ ?_
              dsimp only
              (with_reducible rename Fr _ _ _ _ => FR); (with_reducible rename News _ _ _ _ => NR); (with_reducible rename Seen _ _ _ (_ + 1) _ => SR)
              obtain ⟨q1, q2⟩ := fin _ _ _ [] FR NR
              exact hR _ _ _ _ _ q1 q2 SR
          · rintro h' tk m' F' N' ⟨⟨cv1, cv2, rfl⟩, hJ2⟩
            have hany2 : ¬ D.any (fun k => Txt.startswith fn (k ++ Str.ofString "/")) = true := fun hy => by
              obtain ⟨k, hk, hy⟩ := List.any_eq_true.mp hy
              obtain ⟨j, hj⟩ := List.getElem?_of_mem hk
              have hjl : j < D.length := (List.getElem?_eq_some_iff.mp hj).1
              rw [hJ2 j k (by rw [List.size_toArray, ← hD.1]; exact hjl) hj] at hy; cases hy
            have ha : answer M D (some fn) mod = 0 := by unfold answer; rw [if_neg hmem', if_neg hany]; dsimp only; rw [if_neg hany2]
            rw [ha] at hR
            clear FF NF
            (repeat' (first | (k_unfold; (try dsimp only)) | walk1 | (dsimp only; walk1)))
            dsimp only
            (with_reducible rename Fr _ _ _ _ => FR); (with_reducible rename News _ _ _ _ => NR); (with_reducible rename Seen _ _ _ (_ + 1) _ => SR)
            obtain ⟨q1, q2⟩ := fin _ _ _ [] FR NR
            exact hR _ _ _ _ _ q1 q2 SR
end
end Mine
end
section
open PySem PySem.W PySem.Calls PyProof.Rows
set_option maxRecDepth 100000
namespace Mine
section
variable {prog : Program} {w : World} {A : Around} {E : Value → Shared → Prop} {h₀ g h h' : Heap} {C : Addr} {m : Str → Option Value} {fp wr : List Addr}
def ownOf (g h : Heap) (fp : List Addr) : List (Addr × Obj) := fp.filterMap fun b => if (g.get? b).isNone = true then (h.get? b).map (Prod.mk b) else none
theorem mem_ownOf {p : Addr × Obj} (hp : p ∈ ownOf g h fp) : p.1 ∈ fp ∧ g.get? p.1 = none ∧ h.get? p.1 = some p.2 := by
  obtain ⟨b, hb, e⟩ := List.mem_filterMap.mp hp
  by_cases hn : (g.get? b).isNone = true
  · rw [if_pos hn] at e
    obtain ⟨o, ho, rfl⟩ := Option.map_eq_some_iff.mp e
    exact ⟨hb, Option.isNone_iff_eq_none.mp hn, ho⟩
  · rw [if_neg hn] at e; cases e
theorem ownOf_news (hC : C ∉ fp) : News g C h (ownOf g h fp) := fun p hp =>
  let ⟨a, b, c⟩ := mem_ownOf hp; ⟨c, fun e => hC (e ▸ a), b⟩
theorem ownOf_back (hk : ∀ b o, g.get? b = some o → h.get? b = some o) (hk' : ∀ b o, g.get? b = some o → h'.get? b = some o) (N : ∀ p ∈ ownOf g h fp, h'.get? p.1 = some p.2) : ∀ b ∈ fp, ∀ o, h.get? b = some o → h'.get? b = some o := by
  intro b hb o e
  cases hg : g.get? b with
  | none => exact N (b, o) (List.mem_filterMap.mpr ⟨b, hb, by rw [if_pos (by rw [hg]; rfl), e]; rfl⟩)
  | some o' =>
    have := hk b o' hg
    rw [e] at this; injection this with this
    rw [this]; exact hk' b o' hg
theorem in_ownOf {b : Addr} (hb : b ∈ fp) (hg : g.get? b = none) (hex : ∃ o, h.get? b = some o) : ∃ o, (b, o) ∈ ownOf g h fp := by
  obtain ⟨o, ho⟩ := hex
  exact ⟨o, List.mem_filterMap.mpr ⟨b, hb, by rw [if_pos (by rw [hg]; rfl), ho]; rfl⟩⟩
theorem apart_of {news₁ news₂ own : List (Addr × Obj)} {b : Addr} (hex : ∃ o, h.get? b = some o) (h1 : ∀ p ∈ news₁, p.1 ≠ b) (how : ∃ o, (b, o) ∈ own) (h2 : ∀ p ∈ news₂, p.1 ∈ news₁.map (·.1) ∨ h.get? p.1 = none ∨ ∀ q ∈ own, p.1 ≠ q.1) : ∀ p ∈ news₂, p.1 ≠ b := by
  intro p hp e
  rcases h2 p hp with hm | hm | hm
  · obtain ⟨q, hq, hqe⟩ := List.mem_map.mp hm
    exact h1 q hq (hqe.trans e)
  · obtain ⟨o, ho⟩ := hex
    rw [e, ho] at hm; cases hm
  · obtain ⟨o, ho⟩ := how
    exact hm _ ho e
theorem forAt {s₂ : Shared} {env : Env} {target : PySem.Expr} {body : List Stmt} {R : Result → Shared → Prop} {Q : Flow → Shared → Prop} {I : Addr} {n : Nat} {P : Nat → Value → Prop} {St : Nat → Heap → Prop} {news : List (Addr × Obj)}
    (W : Walks prog w A I fp wr n P St) (hL : env.locals ∉ fp) (hwr : ∀ b ∈ wr, h₀.get? b = none) (hlive : ∀ i h, St i h → ∀ b ∈ wr, ∃ o, h.get? b = some o) (apx : Prop) (hap : apx → ∀ b ∈ fp, h₀.get? b = none → b ∈ wr)
    (hst : St 0 s₂.heap) (F : Fr h₀ env.locals s₂.heap m) (N : News h₀ env.locals s₂.heap news) (hnw : ∀ p ∈ news, ∀ b ∈ wr, p.1 ≠ b)
    (J : Nat → (Str → Option Value) → List (Addr × Obj) → Prop) (h0 : J 0 m news)
    (step : ∀ i v m₁ news₁ own (s₁ : Shared) (Qs : Flow → Shared → Prop), (∃ h tk d, s₁ = { s₂ with heap := h, toks := tk, drawn := d }) → i < n → P i v → J i m₁ news₁ → Fr h₀ env.locals s₁.heap m₁ → News h₀ env.locals s₁.heap (news₁ ++ own) → (apx → ∀ p ∈ own, ∀ q ∈ news₁, p.1 ≠ q.1) →
      (∀ h' tk d m₂ news₂, Fr h₀ env.locals h' m₂ → News h₀ env.locals h' (news₂ ++ own) → (∀ p ∈ news₂, p.1 ∈ news₁.map (·.1) ∨ s₁.heap.get? p.1 = none ∨ ∀ q ∈ own, p.1 ≠ q.1) → J (i + 1) m₂ news₂ → Qs .next { s₁ with heap := h', toks := tk, drawn := d } ∧ Qs .cont { s₁ with heap := h', toks := tk, drawn := d }) →
      wpAny (model prog w) A (assign target env v) (fun _ s => wpAny (model prog w) A (execs body env) Qs (fun _ _ => False) s) (fun _ _ => False) s₁)
    (done : ∀ h' tk d m' news', Fr h₀ env.locals h' m' → News h₀ env.locals h' news' → J n m' news' → Q .next { s₂ with heap := h', toks := tk, drawn := d })
    (hR : ∀ f s', Q f s' → R (.ok f) s') (ht : ∀ v, letOwnedTupleGo target (.ref I) v = pure () := by intro _; rfl) :
    codeAny (model prog w) A (.forLoop target (.ref I) body [] env) R s₂ := by
  have hLw : env.locals ∉ wr := fun h => hL (W.sub _ h)
  refine codeAny_forLoop (fun k s' => ∃ h tk d i m₁ news₁, s' = { s₂ with heap := h, toks := tk, drawn := d } ∧ i ≤ n ∧ k = n + 1 - i ∧ St i h ∧ Fr h₀ env.locals h m₁ ∧ News h₀ env.locals h news₁ ∧ (∀ p ∈ news₁, ∀ b ∈ wr, p.1 ≠ b) ∧ J i m₁ news₁) ?_ (n + 1)
    ⟨s₂.heap, s₂.toks, s₂.drawn, 0, m, news, rfl, Nat.zero_le _, rfl, hst, F, N, hnw, h0⟩ ht
  rintro k s' ⟨h, tk, d, i, m₁, news₁, rfl, hi, rfl, st, F₁, N₁, hn₁, hJ⟩
  by_cases hlt : i < n
  · refine wpAny_mono (E := fun _ _ => False) (W.item i _ _ _ hlt st fun v h1 tk1 hv st1 hk1 => ?_) (fun _ _ x => x) (fun _ _ x => x.elim)
    have F₂ : Fr h₀ env.locals h1 m₁ := ⟨F₁.ns.at' fun o e => hk1 _ o hLw e, fun b o e => hk1 b o (fun hb => by rw [hwr b hb] at e; cases e) (F₁.keep b o e), F₁.above⟩
    have N₂ : News h₀ env.locals h1 (news₁ ++ ownOf h₀ h1 fp) := fun p hp => by
      rcases List.mem_append.mp hp with hp | hp
      · exact ⟨hk1 _ _ (fun hb => hn₁ p hp _ hb rfl) (N₁ p hp).1, (N₁ p hp).2⟩
      · exact ownOf_news hL p hp
    refine wpAny_mono (step i v m₁ news₁ _ _ _ ⟨h1, tk1, d, rfl⟩ hlt hv hJ F₂ N₂ (fun hx p hp q hq e => let ⟨a, b, _⟩ := mem_ownOf hp; hn₁ q hq _ (hap hx _ a b) e.symm) fun h' tk' d' m₂ news₂ F' N' hfr hJ' => ?_) (fun _ s hs => wpAny_mono hs (fun _ _ x => x) fun _ _ x => x.elim) fun _ _ x => x.elim
    have hb := ownOf_back F₂.keep F'.keep (fun p hp => (N' p (List.mem_append_right _ hp)).1)
    have fin : ∃ m, m < n + 1 - i ∧ ∃ h tk d i_1 m₁ news₁, { s₂ with heap := h', toks := tk', drawn := d' } = { s₂ with heap := h, toks := tk, drawn := d } ∧ i_1 ≤ n ∧ m = n + 1 - i_1 ∧ St i_1 h ∧ Fr h₀ env.locals h m₁ ∧ News h₀ env.locals h news₁ ∧ (∀ p ∈ news₁, ∀ b ∈ wr, p.1 ≠ b) ∧ J i_1 m₁ news₁ :=
      ⟨n + 1 - (i + 1), by omega, h', tk', d', i + 1, m₂, news₂, rfl, hlt, rfl, W.frame _ _ _ st1 hb, F', fun p hp => N' p (List.mem_append_left _ hp), fun p hp b hbw => apart_of (hlive _ _ st1 b hbw) (fun q hq => hn₁ q hq b hbw) (in_ownOf (W.sub b hbw) (hwr b hbw) (hlive _ _ st1 b hbw)) hfr p hp, hJ'⟩
    exact ⟨fin, fin⟩
  · have e : i = n := by omega
    subst e
    refine wpAny_mono (E := fun _ _ => False) (W.done _ _ _ st fun h1 tk1 hk1 => ?_) (fun _ _ x => x) (fun _ _ x => x.elim)
    have F₂ : Fr h₀ env.locals h1 m₁ := ⟨F₁.ns.at' fun o e => hk1 _ o hLw e, fun b o e => hk1 b o (fun hb => by rw [hwr b hb] at e; cases e) (F₁.keep b o e), F₁.above⟩
    refine wpAny_of_eq (a := Flow.next) rfl ?_
    exact hR _ _ (done h1 tk1 d m₁ news₁ F₂ (fun p hp => ⟨hk1 _ _ (fun hb => hn₁ p hp _ hb rfl) (N₁ p hp).1, (N₁ p hp).2⟩) hJ)
theorem compLoopAt {s : Shared} {elt iter : PySem.Expr} {x : Str} {px : Pos} {ifs : List PySem.Expr} {scope : Scope} {pos : Pos} {I D : Addr} {n : Nat} {P : Nat → Value → Prop} {St : Nat → Heap → Prop} {cenv : Env} {R : Result → Shared → Prop} {news : List (Addr × Obj)}
    (W : Walks prog w A I fp wr n P St) (hx : cenv.kindOf x = some .local) (hp : (cenv.scope.kind == .class || (cenv.scope.kind == .module && cenv.locals != cenv.globals)) = false)
    (hCf : cenv.locals ∉ fp) (hDf : D ∉ fp) (hDC : D ≠ cenv.locals) (hwr : ∀ b ∈ wr, g.get? b = none) (hlive : ∀ i h, St i h → ∀ b ∈ wr, ∃ o, h.get? b = some o) (apx : Prop) (hap : apx → ∀ b ∈ fp, g.get? b = none → b ∈ wr)
    (F : Fr g cenv.locals s.heap m) (N : News g cenv.locals s.heap news) (hD : s.heap.PlainList D #[]) (hgD : g.get? D = none) (hnw : ∀ p ∈ news, (∀ b ∈ wr, p.1 ≠ b) ∧ p.1 ≠ D) (hst : St 0 s.heap) (hsz : n ≤ sizeLine)
    (J : Nat → List Value → List (Addr × Obj) → Prop) (h0 : J 0 [] news)
    (step : ∀ i v ys (m₁ : Str → Option Value) news₁ own (s₁ : Shared) (Qs : Option Value → Shared → Prop), (∃ h tk d, s₁ = { s with heap := h, toks := tk, drawn := d }) → i < n → P i v → J i ys news₁ → Fr g cenv.locals s₁.heap (fun y => if y = x then some v else m₁ y) → News g cenv.locals s₁.heap (news₁ ++ own) → (apx → ∀ p ∈ own, ∀ q ∈ news₁, p.1 ≠ q.1) →
      (∀ y h' tk d m₂ news₂, Fr g cenv.locals h' m₂ → News g cenv.locals h' (news₂ ++ own) → (∀ p ∈ news₂, p.1 ∈ news₁.map (·.1) ∨ s₁.heap.get? p.1 = none ∨ ∀ q ∈ own, p.1 ≠ q.1) → J (i + 1) (ys ++ [y]) news₂ → Qs (some y) { s₁ with heap := h', toks := tk, drawn := d }) →
      (∀ h' tk d m₂ news₂, Fr g cenv.locals h' m₂ → News g cenv.locals h' (news₂ ++ own) → (∀ p ∈ news₂, p.1 ∈ news₁.map (·.1) ∨ s₁.heap.get? p.1 = none ∨ ∀ q ∈ own, p.1 ≠ q.1) → J (i + 1) ys news₂ → Qs none { s₁ with heap := h', toks := tk, drawn := d }) →
      wpAny (model prog w) A (forIn ifs true fun c r => if r = true then do let ok ← isTrue c cenv (eval c cenv); pure (ForInStep.yield ok) else pure (ForInStep.yield r))
        (fun ok s₃ => if ok = true then wpAny (model prog w) A (eval elt cenv) (fun y s₄ => Qs (some y) s₄) (fun _ _ => False) s₃ else Qs none s₃) (fun _ _ => False) s₁)
    (done : ∀ h' tk d m' ys news', Fr g cenv.locals h' m' → News g cenv.locals h' news' → h'.PlainList D ys.toArray → (∀ p ∈ news', p.1 ≠ D) → J n ys news' → R (.ok .next) { s with heap := h', toks := tk, drawn := d }) :
    codeAny (model prog w) A (.compLoop (.ListComp elt [⟨.Name x px, iter, ifs, 0⟩] scope pos) 0 (.ref I) (.ref D) cenv) R s := by
  have hCw : cenv.locals ∉ wr := fun h => hCf (W.sub _ h)
  have hDw : D ∉ wr := fun h => hDf (W.sub _ h)
  refine codeAny_compLoop_tests (fun k s' => ∃ h tk d i m₁ ys news₁, s' = { s with heap := h, toks := tk, drawn := d } ∧ i ≤ n ∧ k = n + 1 - i ∧ St i h ∧ ys.length ≤ i ∧ Fr g cenv.locals h m₁ ∧ News g cenv.locals h news₁ ∧ h.PlainList D ys.toArray ∧ (∀ p ∈ news₁, (∀ b ∈ wr, p.1 ≠ b) ∧ p.1 ≠ D) ∧ J i ys news₁) ?_ (n + 1)
    ⟨s.heap, s.toks, s.drawn, 0, m, [], news, rfl, Nat.zero_le _, rfl, hst, Nat.zero_le _, F, N, hD, hnw, h0⟩
  rintro k s' ⟨h, tk, d, i, m₁, ys, news₁, rfl, hi, rfl, st, hyl, F₁, N₁, hD₁, hn₁, hJ⟩
  by_cases hlt : i < n
  · refine wpAny_mono (E := fun _ _ => False) (W.item i _ _ _ hlt st fun v h1 tk1 hv st1 hk1 => ?_) (fun _ _ x => x) (fun _ _ x => x.elim)
    have F₂ : Fr g cenv.locals h1 m₁ := ⟨F₁.ns.at' fun o e => hk1 _ o hCw e, fun b o e => hk1 b o (fun hb => by rw [hwr b hb] at e; cases e) (F₁.keep b o e), F₁.above⟩
    have N₂ : News g cenv.locals h1 news₁ := fun p hp => ⟨hk1 _ _ (fun hb => (hn₁ p hp).1 _ hb rfl) (N₁ p hp).1, (N₁ p hp).2⟩
    have hD₂ : h1.PlainList D ys.toArray := hD₁.at fun o e => hk1 _ o hDw e
    refine wpAny_assign_Name (wpAny_storeName_local hx F₂.ns (fun h2 hn2 hs2 => ?_) hp)
    have F₃ := F₂.set hn2 hs2
    have st2 : St (i + 1) h2 := W.frame _ _ _ st1 fun b hb o e => hs2.extBut b o (fun h => hCf (h ▸ hb)) e
    have hD₃ : h2.PlainList D ys.toArray := hD₂.extBut hs2.extBut hDC
    obtain ⟨cD, hDo⟩ := hD₃
    have N₃ : News g cenv.locals h2 (news₁ ++ ((D, ({ cls := .type "list", data := .seq ys.toArray cD } : Obj)) :: ownOf g h2 fp)) := fun p hp => by
      rcases List.mem_append.mp hp with hp | hp
      · exact N₂.set hs2 p hp
      · rcases List.mem_cons.mp hp with rfl | hp
        · exact ⟨hDo, hDC, hgD⟩
        · exact ownOf_news hCf p hp
    have hyz : ys.toArray.size ≤ sizeLine := by rw [List.size_toArray]; omega
    have next : ∀ h' tk' d' m₂ ys' news₂, Fr g cenv.locals h' m₂ → News g cenv.locals h' (news₂ ++ ownOf g h2 fp) → (∀ p ∈ news₂, p.1 ∈ news₁.map (·.1) ∨ h2.get? p.1 = none ∨ ∀ q ∈ (D, ({ cls := .type "list", data := .seq ys.toArray cD } : Obj)) :: ownOf g h2 fp, p.1 ≠ q.1) → ys'.length ≤ i + 1 → h'.PlainList D ys'.toArray → J (i + 1) ys' news₂ →
        ∃ m, m < n + 1 - i ∧ ∃ h tk d i_1 m₁ ys news₁, { s with heap := h', toks := tk', drawn := d' } = { s with heap := h, toks := tk, drawn := d } ∧ i_1 ≤ n ∧ m = n + 1 - i_1 ∧ St i_1 h ∧ ys.length ≤ i_1 ∧ Fr g cenv.locals h m₁ ∧ News g cenv.locals h news₁ ∧ h.PlainList D ys.toArray ∧ (∀ p ∈ news₁, (∀ b ∈ wr, p.1 ≠ b) ∧ p.1 ≠ D) ∧ J i_1 ys news₁ := by
      intro h' tk' d' m₂ ys' news₂ F' N' hfr hl' hD' hJ'
      have hb := ownOf_back F₃.keep F'.keep (fun p hp => (N' p (List.mem_append_right _ hp)).1)
      exact ⟨n + 1 - (i + 1), by omega, h', tk', d', i + 1, m₂, ys', news₂, rfl, hlt, rfl, W.frame _ _ _ st2 hb, hl', F', fun p hp => N' p (List.mem_append_left _ hp), hD',
        fun p hp => ⟨fun b hbw => apart_of (hlive _ _ st2 b hbw) (fun q hq => (hn₁ q hq).1 b hbw) (let ⟨o, ho⟩ := in_ownOf (W.sub b hbw) (hwr b hbw) (hlive _ _ st2 b hbw); ⟨o, .tail _ ho⟩) hfr p hp, apart_of ⟨_, hDo⟩ (fun q hq => (hn₁ q hq).2) ⟨_, .head _⟩ hfr p hp⟩, hJ'⟩
    let Qs : Option Value → Shared → Prop := fun o s₄ => ∃ h' tk' d' m₂ news₂, s₄ = { s with heap := h', toks := tk', drawn := d' } ∧ Fr g cenv.locals h' m₂ ∧ News g cenv.locals h' (news₂ ++ ((D, ({ cls := .type "list", data := .seq ys.toArray cD } : Obj)) :: ownOf g h2 fp)) ∧ (∀ p ∈ news₂, p.1 ∈ news₁.map (·.1) ∨ h2.get? p.1 = none ∨ ∀ q ∈ (D, ({ cls := .type "list", data := .seq ys.toArray cD } : Obj)) :: ownOf g h2 fp, p.1 ≠ q.1) ∧
      match o with | some y => J (i + 1) (ys ++ [y]) news₂ | none => J (i + 1) ys news₂
    refine wpAny_mono (step i v ys m₁ news₁ _ _ Qs ⟨h2, tk1 + 1, d, rfl⟩ hlt hv hJ F₃ N₃ (fun hx p hp q hq e => by
      rcases List.mem_cons.mp hp with rfl | hp
      · exact (hn₁ q hq).2 e.symm
      · obtain ⟨a, b, _⟩ := mem_ownOf hp
        exact (hn₁ q hq).1 _ (hap hx _ a b) e.symm) (fun y h' tk' d' m₂ news₂ F' N' hfr hJ' => ⟨h', tk', d', m₂, news₂, rfl, F', N', hfr, hJ'⟩) (fun h' tk' d' m₂ news₂ F' N' hfr hJ' => ⟨h', tk', d', m₂, news₂, rfl, F', N', hfr, hJ'⟩)) (fun ok s₃ hq => ?_) fun _ _ x => x.elim
    cases ok with
    | false =>
      rw [if_neg Bool.false_ne_true] at hq ⊢
      obtain ⟨h', tk', d', m₂, news₂, rfl, F', N', hfr, hJ'⟩ := hq
      refine next h' tk' d' m₂ ys news₂ F' (fun p hp => N' p ?_) hfr (by omega) ⟨cD, (N' (D, _) (List.mem_append_right _ (.head _))).1⟩ hJ'
      rcases List.mem_append.mp hp with hp | hp
      · exact List.mem_append_left _ hp
      · exact List.mem_append_right _ (.tail _ hp)
    | true =>
      rw [if_pos rfl] at hq ⊢
      refine wpAny_mono hq (fun y s₄ hq => ?_) fun _ _ x => x.elim
      obtain ⟨h', tk', d', m₂, news₂, rfl, F', N', hfr, hJ'⟩ := hq
      have hD4 : h'.PlainList D ys.toArray := ⟨cD, (N' (D, _) (List.mem_append_right _ (.head _))).1⟩
      refine wpAny_list_append_plain (hsz := hyz) hD4 fun h5 hl5 hs5 => ?_
      have hD5 : h5.PlainList D (ys ++ [y]).toArray := by rw [← List.push_toArray]; exact hl5
      have hap : ∀ p ∈ news₂, p.1 ≠ D := apart_of ⟨_, hDo⟩ (fun q hq => (hn₁ q hq).2) ⟨_, .head _⟩ hfr
      refine next h5 tk' d' m₂ (ys ++ [y]) news₂ (F'.change hs5 hDC hgD) (fun p hp => ?_) hfr (by rw [List.length_append, List.length_singleton]; omega) hD5 hJ'
      have hpD : p.1 ≠ D := by
        rcases List.mem_append.mp hp with hp | hp
        · exact hap p hp
        · exact fun e => hDf (e ▸ (mem_ownOf hp).1)
      have hpm : p ∈ news₂ ++ ((D, ({ cls := .type "list", data := .seq ys.toArray cD } : Obj)) :: ownOf g h2 fp) := by
        rcases List.mem_append.mp hp with hp | hp
        · exact List.mem_append_left _ hp
        · exact List.mem_append_right _ (.tail _ hp)
      exact ⟨hs5.extBut _ _ hpD (N' p hpm).1, (N' p hpm).2⟩
  · have e : i = n := by omega
    subst e
    refine wpAny_mono (E := fun _ _ => False) (W.done _ _ _ st fun h1 tk1 hk1 => ?_) (fun _ _ x => x) (fun _ _ x => x.elim)
    exact done h1 tk1 d m₁ ys news₁ ⟨F₁.ns.at' fun o e => hk1 _ o hCw e, fun b o e => hk1 b o (fun hb => by rw [hwr b hb] at e; cases e) (F₁.keep b o e), F₁.above⟩
      (fun p hp => ⟨hk1 _ _ (fun hb => (hn₁ p hp).1 _ hb rfl) (N₁ p hp).1, (N₁ p hp).2⟩) (hD₁.at fun o e => hk1 _ o hDw e) (fun p hp => (hn₁ p hp).2) hJ
end
end Mine
end
section
open PySem PySem.W PySem.Calls PyProof.Rows
set_option maxRecDepth 100000
namespace Mine
section
variable {prog : Program} {w : World} {A : Around} {E : Value → Shared → Prop} {h₀ : Heap} {L : Addr} {m : Str → Option Value} {fp wr : List Addr}
abbrev listObj (ys : List Value) (c : Nat) : Obj := { cls := .type "list", data := .seq ys.toArray c }
def CompBlock (prog : Program) (w : World) (A : Around) (E : Value → Shared → Prop) (e : PySem.Expr) (scope : Scope) (env : Env) (cl : List (Str × Addr)) (use : Option (Value → Sem Unit)) (Q : Value → Shared → Prop) (it : Value) (s₂ : Shared) : Prop :=
  wpAny (model prog w) A (newList []) (fun acc s₃ => wpAny (model prog w) A (newFunctionEnv scope env.globals cl [] env.qual none .none (some env)) (fun cenv s₄ =>
    codeAny (model prog w) A (.compStart e 0 it acc { cenv with scope := relabel scope env }) (compPost (model prog w) A E use Q acc cenv.locals) s₄) E s₃) E s₂
-- the step of a comprehension: what the body sees
def CompStep (prog : Program) (w : World) (A : Around) (h₀ : Heap) (env : Env) (scope : Scope) (cl : List (Str × Addr)) (x : Str) (ifs : List PySem.Expr) (elt : PySem.Expr) (n : Nat) (P : Nat → Value → Prop) (J : Nat → List Value → List (Addr × Obj) → Prop) (s₂ : Shared) (apx : Prop) : Prop :=
  ∀ i v ys (m₁ : Str → Option Value) news₁ own g C (s₁ : Shared) (Qs : Option Value → Shared → Prop), h₀.StaysIn g → (∃ h tk d, s₁ = { s₂ with heap := h, toks := tk, drawn := d }) → i < n → P i v → J i ys news₁ → Fr g C s₁.heap (fun y => if y = x then some v else m₁ y) → News g C s₁.heap (news₁ ++ own) → (apx → ∀ p ∈ own, ∀ q ∈ news₁, p.1 ≠ q.1) →
      (∀ y h' tk d m₂ news₂, Fr g C h' m₂ → News g C h' (news₂ ++ own) → (∀ p ∈ news₂, p.1 ∈ news₁.map (·.1) ∨ s₁.heap.get? p.1 = none ∨ ∀ q ∈ own, p.1 ≠ q.1) → J (i + 1) (ys ++ [y]) news₂ → Qs (some y) { s₁ with heap := h', toks := tk, drawn := d }) →
      (∀ h' tk d m₂ news₂, Fr g C h' m₂ → News g C h' (news₂ ++ own) → (∀ p ∈ news₂, p.1 ∈ news₁.map (·.1) ∨ s₁.heap.get? p.1 = none ∨ ∀ q ∈ own, p.1 ≠ q.1) → J (i + 1) ys news₂ → Qs none { s₁ with heap := h', toks := tk, drawn := d }) →
      wpAny (model prog w) A (forIn ifs true fun c r => if r = true then do let ok ← isTrue c (compEnvC scope cl C env) (eval c (compEnvC scope cl C env)); pure (ForInStep.yield ok) else pure (ForInStep.yield r))
        (fun ok s₃ => if ok = true then wpAny (model prog w) A (eval elt (compEnvC scope cl C env)) (fun y s₄ => Qs (some y) s₄) (fun _ _ => False) s₃ else Qs none s₃) (fun _ _ => False) s₁
theorem compBlock {s₂ : Shared} {elt iter : PySem.Expr} {x : Str} {px : Pos} {ifs : List PySem.Expr} {scope : Scope} {pos : Pos} {I : Addr} {n : Nat} {P : Nat → Value → Prop} {St : Nat → Heap → Prop} {env : Env} {cl : List (Str × Addr)} {use : Option (Value → Sem Unit)} {Q : Value → Shared → Prop} {news : List (Addr × Obj)}
    (hcell : ∀ y ∈ scope.names, y.2 ≠ .cell) (hkind : scope.kind = .function) (hx : scope.names.lookup x = some .local)
    (W : Walks prog w A I fp wr n P St) (hL : L ∉ fp) (hfp : ∀ b ∈ fp, b < s₂.heap.objs.size) (hwr : ∀ b ∈ wr, h₀.get? b = none) (hlive : ∀ i h, St i h → ∀ b ∈ wr, ∃ o, h.get? b = some o) (apx : Prop) (hap : apx → ∀ b ∈ fp, h₀.get? b = none → b ∈ wr)
    (F : Fr h₀ L s₂.heap m) (N : News h₀ L s₂.heap news) (hnw : ∀ p ∈ news, ∀ b ∈ wr, p.1 ≠ b) (hst : St 0 s₂.heap) (hsz : n ≤ sizeLine)
    (J : Nat → List Value → List (Addr × Obj) → Prop) (h0 : J 0 [] news)
    (step : CompStep prog w A h₀ env scope cl x ifs elt n P J s₂ apx)
    (done : ∀ D C oC h' tk d ys c news', s₂.heap.get? D = none → Fr h₀ L h' m → News h₀ L h' ((C, oC) :: (D, listObj ys c) :: news') → (∃ mC, h'.Ns C mC) → D ≠ C → (∀ p ∈ news', p.1 ≠ C ∧ p.1 ≠ D) → J n ys news' → compPost (model prog w) A E use Q (.ref D) C (.ok .next) { s₂ with heap := h', toks := tk, drawn := d }) :
    CompBlock prog w A E (.ListComp elt [⟨.Name x px, iter, ifs, 0⟩] scope pos) scope env cl use Q (.ref I) s₂ := by
  refine wpAny_newObj_type (wpAny_newFunctionEnv hcell (by intro y hy; simp at hy) (fun h₁ hns₁ hsb₁ => ?_) hkind)
  dsimp only at hns₁ hsb₁ ⊢
  generalize hH2 : s₂.heap.push { cls := .type "list", dict := none, data := .seq ([] : List Value).toArray } = H2 at hns₁ hsb₁ ⊢
  have hC : H2.objs.size = s₂.heap.objs.size + 1 := by rw [← hH2, Heap.size_push]
  have hDC : s₂.heap.objs.size ≠ H2.objs.size := by rw [hC]; exact Nat.ne_of_lt (Nat.lt_succ_self _)
  have below : ∀ b, b < s₂.heap.objs.size → b ≠ H2.objs.size ∧ b ≠ s₂.heap.objs.size := fun b hb => ⟨by rw [hC]; exact Nat.ne_of_lt (Nat.lt_succ_of_lt hb), Nat.ne_of_lt hb⟩
  have hDf : s₂.heap.objs.size ∉ fp := fun hm => Nat.lt_irrefl _ (hfp _ hm)
  have hCf : H2.objs.size ∉ fp := fun hm => by have := hfp _ hm; rw [hC] at this; exact Nat.lt_irrefl _ (Nat.lt_of_succ_lt this)
  have old : ∀ b o, s₂.heap.get? b = some o → h₁.get? b = some o := fun b o e => hsb₁.extBut b o (below b (Heap.lt_size e)).1 (Heap.get?_push_of_some _ (hH2 ▸ Heap.get?_push_of_some _ e))
  have hacc : h₁.PlainList s₂.heap.objs.size #[] := ⟨_, hsb₁.extBut _ _ hDC (Heap.get?_push_of_some _ (hH2 ▸ Heap.get?_push_size _ rfl))⟩
  have hst₁ : St 0 h₁ := W.frame _ _ _ hst fun b _ o e => old b o e
  have fresh : ∀ a, s₂.heap.objs.size ≤ a → s₂.heap.get? a = none := fun a ha => by
    cases e : s₂.heap.get? a with
    | none => rfl
    | some o' => exact absurd (Heap.lt_size e) (Nat.not_lt.mpr ha)
  -- the base of the body
  let hid : List Addr := news.map (·.1) ++ fp.filter fun b => (h₀.get? b).isNone
  have st : h₀.StaysIn (hideAll s₂.heap hid) := fun b o e => hideAll_get _ (F.keep b o e) (fun hm => by
    rcases List.mem_append.mp hm with hm | hm
    · obtain ⟨p, hp, rfl⟩ := List.mem_map.mp hm
      rw [(N p hp).2.2] at e; cases e
    · have := (List.mem_filter.mp hm).2
      rw [e] at this; cases this)
  obtain ⟨oL, esL, epL, hLo, rL⟩ := id F.ns
  have hLh : (hideAll s₂.heap hid).get? L = some oL := hideAll_get _ hLo (fun hm => by
    rcases List.mem_append.mp hm with hm | hm
    · obtain ⟨p, hp, e⟩ := List.mem_map.mp hm
      exact (N p hp).2.1 e
    · exact hL (List.mem_filter.mp hm).1)
  have hg2 : ∀ b o, (hideAll s₂.heap hid).get? b = some o → h₁.get? b = some o := fun b o e => old b o (of_hideAll _ e)
  have F₁ : Fr (hideAll s₂.heap hid) H2.objs.size h₁ _ := ⟨hns₁, hg2, by rw [hideAll_size, hC]; exact Nat.le_succ _⟩
  have N₁ : News (hideAll s₂.heap hid) H2.objs.size h₁ news := fun p hp => ⟨old _ _ (N p hp).1, (below _ (Heap.lt_size (N p hp).1)).1, hideAll_none _ (List.mem_append_left _ (List.mem_map_of_mem hp))⟩
  have loop : ∀ s₃ : Shared, s₃ = { s₂ with heap := h₁, toks := s₂.toks + ([] : List (Str × Value)).length } →
      codeAny (model prog w) A (.compLoop (.ListComp elt [⟨.Name x px, iter, ifs, 0⟩] scope pos) 0 (.ref I) (.ref s₂.heap.objs.size) (compEnvC scope cl H2.objs.size env))
        (compPost (model prog w) A E use Q (.ref s₂.heap.objs.size) H2.objs.size) s₃ := by
    rintro s₃ rfl
    refine compLoopAt (cenv := compEnvC scope cl H2.objs.size env) W (lookup_relabel_local hx) (by simp [compEnvC, relabel, hkind]) hCf hDf hDC (fun b hb => ?_) hlive apx (fun hx b hb e => hap hx b hb (by
      cases e' : h₀.get? b with
      | none => rfl
      | some o => rw [st b o e'] at e; cases e)) F₁ N₁ hacc ?_ (fun p hp => ⟨hnw p hp, (below _ (Heap.lt_size (N p hp).1)).2⟩) hst₁ hsz J h0 ?_ ?_
    · exact hideAll_none _ (List.mem_append_right _ (List.mem_filter.mpr ⟨W.sub b hb, by rw [hwr b hb]; rfl⟩))
    · cases e : (hideAll s₂.heap hid).get? s₂.heap.objs.size with
      | none => rfl
      | some o => have := of_hideAll _ e; rw [fresh _ (Nat.le_refl _)] at this; cases this
    · intro i v ys m₁ news₁ own s₁ Qs hs hi hv hJ F' N' ho hy hn
      obtain ⟨hh, tk, d, rfl⟩ := hs
      exact step i v ys m₁ news₁ own _ _ _ Qs st ⟨hh, tk, d, rfl⟩ hi hv hJ F' N' ho hy hn
    · intro h' tk d m' ys news' F' N' hD hnD hJ
      obtain ⟨c, hDo⟩ := hD
      obtain ⟨oC, esC, epC, hCo, rC⟩ := id F'.ns
      have hfr0 : ∀ a, s₂.heap.objs.size ≤ a → h₀.get? a = none := fun a ha => by
        cases e : h₀.get? a with
        | none => rfl
        | some o => have := F.keep a o e; rw [fresh a ha] at this; cases this
      have hLlt : L < s₂.heap.objs.size := Heap.lt_size hLo
      refine done _ H2.objs.size oC h' tk d ys c news' (fresh _ (Nat.le_refl _)) ⟨⟨oL, esL, epL, F'.keep _ _ hLh, rL⟩, fun b o e => F'.keep b o (st b o e), F.above⟩ (fun p hp => ?_) ⟨_, F'.ns⟩ hDC (fun p hp => ⟨(N' p hp).2.1, hnD p hp⟩) hJ
      rcases List.mem_cons.mp hp with rfl | hp
      · exact ⟨hCo, Ne.symm (below _ hLlt).1, hfr0 _ (by rw [hC]; exact Nat.le_succ _)⟩
      · rcases List.mem_cons.mp hp with rfl | hp
        · exact ⟨hDo, Ne.symm (below _ hLlt).2, hfr0 _ (Nat.le_refl _)⟩
        · refine ⟨(N' p hp).1, fun e => ?_, ?_⟩
          · have := (N' p hp).2.2; rw [e, hLh] at this; cases this
          · cases e : h₀.get? p.1 with
            | none => rfl
            | some o => have := (N' p hp).2.2; rw [st _ _ e] at this; cases this
  exact codeAny_compStart_list (loop _ rfl) (W.self 0 _ _ _ hst₁ (loop _ rfl))
-- a comprehension as an expression
theorem evalComp {s : Shared} {elt iter : PySem.Expr} {x : Str} {px : Pos} {ifs : List PySem.Expr} {scope : Scope} {cl : List (Str × Addr)} {pos : Pos} {env : Env} {Q : Value → Shared → Prop}
    (hclos : closureFor scope env = pure cl) (hkind : scope.kind = .function) (hnames : ∀ y ∈ scope.names, y.2 = .local → scope.names.lookup y.1 = some .local)
    (h : wpAny (model prog w) A (eval iter env) (fun xv s₁ => wpAny (model prog w) A (pyIter xv) (fun it s₂ => CompBlock prog w A E (.ListComp elt [⟨.Name x px, iter, ifs, 0⟩] scope pos) scope env cl none Q it s₂) E s₁) E s)
    (hs : ∀ x, foldedSetIterable iter env x = pure x := by intro _; rfl) :
    wpAny (model prog w) A (eval (.ListComp elt [⟨.Name x px, iter, ifs, 0⟩] scope pos) env) Q E s := by
  rw [eval_ListComp]
  exact wpAny_comprehension_free (use := none) rfl hs hclos hkind hnames h
theorem postEval {s₂ : Shared} {Q : Value → Shared → Prop} {D C : Addr} {oC : Obj} {h' : Heap} {tk : Nat} {d : Drawn} {ys : List Value} {c : Nat} {news' : List (Addr × Obj)} (F : Fr h₀ L h' m) (N : News h₀ L h' ((C, oC) :: (D, listObj ys c) :: news')) (hC : ∃ mC, h'.Ns C mC) (hDC : D ≠ C) (hn : ∀ p ∈ news', p.1 ≠ C ∧ p.1 ≠ D)
    (done : ∀ h', Fr h₀ L h' m → News h₀ L h' ((D, listObj ys c) :: news') → Q (.ref D) { s₂ with heap := h', toks := tk, drawn := d }) :
    compPost (model prog w) A E none Q (.ref D) C (.ok .next) { s₂ with heap := h', toks := tk, drawn := d } := by
  obtain ⟨mC, hC⟩ := hC
  refine ⟨mC, hC, fun h'' hs => done h'' (F.change hs (N _ (.head _)).2.1 (N _ (.head _)).2.2) fun p hp => ⟨?_, (N p (.tail _ hp)).2⟩⟩
  refine hs.extBut _ _ ?_ (N p (.tail _ hp)).1
  rcases List.mem_cons.mp hp with rfl | hp
  · exact hDC
  · exact (hn p hp).1
theorem evalCompAt {s₂ : Shared} {elt iter : PySem.Expr} {x : Str} {px : Pos} {ifs : List PySem.Expr} {scope : Scope} {pos : Pos} {I : Addr} {n : Nat} {P : Nat → Value → Prop} {St : Nat → Heap → Prop} {env : Env} {cl : List (Str × Addr)} {Q : Value → Shared → Prop} {news : List (Addr × Obj)}
    (hcell : ∀ y ∈ scope.names, y.2 ≠ .cell) (hkind : scope.kind = .function) (hx : scope.names.lookup x = some .local)
    (W : Walks prog w A I fp wr n P St) (hL : L ∉ fp) (hfp : ∀ b ∈ fp, b < s₂.heap.objs.size) (hwr : ∀ b ∈ wr, h₀.get? b = none) (hlive : ∀ i h, St i h → ∀ b ∈ wr, ∃ o, h.get? b = some o) (apx : Prop) (hap : apx → ∀ b ∈ fp, h₀.get? b = none → b ∈ wr)
    (F : Fr h₀ L s₂.heap m) (N : News h₀ L s₂.heap news) (hnw : ∀ p ∈ news, ∀ b ∈ wr, p.1 ≠ b) (hst : St 0 s₂.heap) (hsz : n ≤ sizeLine)
    (J : Nat → List Value → List (Addr × Obj) → Prop) (h0 : J 0 [] news)
    (step : CompStep prog w A h₀ env scope cl x ifs elt n P J s₂ apx)
    (done : ∀ D h' tk d ys c news', s₂.heap.get? D = none → Fr h₀ L h' m → News h₀ L h' ((D, listObj ys c) :: news') → (∀ p ∈ news', p.1 ≠ D) → J n ys news' → Q (.ref D) { s₂ with heap := h', toks := tk, drawn := d }) :
    CompBlock prog w A E (.ListComp elt [⟨.Name x px, iter, ifs, 0⟩] scope pos) scope env cl none Q (.ref I) s₂ :=
  compBlock hcell hkind hx W hL hfp hwr hlive apx hap F N hnw hst hsz J h0 step fun D C oC h' tk d ys c news' hD F' N' hC hDC hn hJ =>
    postEval F' N' hC hDC hn fun h'' F'' N'' => done D h'' tk d ys c news' hD F'' N'' (fun p hp => (hn p hp).2) hJ
-- a comprehension that is stored under a name
theorem assignComp {s : Shared} {elt iter : PySem.Expr} {x y : Str} {px py : Pos} {ifs : List PySem.Expr} {scope : Scope} {cl : List (Str × Addr)} {pos spos : Pos} {env : Env} {Q : Flow → Shared → Prop}
    (hsw : swapsWith (.ListComp elt [⟨.Name x px, iter, ifs, 0⟩] scope pos) (some (.Name y py)) spos.line env = pure true)
    (hclos : closureFor scope env = pure cl) (hkind : scope.kind = .function) (hnames : ∀ y ∈ scope.names, y.2 = .local → scope.names.lookup y.1 = some .local)
    (h : wpAny (model prog w) A (eval iter env) (fun xv s₁ => wpAny (model prog w) A (pyIter xv) (fun it s₂ => CompBlock prog w A E (.ListComp elt [⟨.Name x px, iter, ifs, 0⟩] scope pos) scope env cl (some (assign (.Name y py) env)) (fun _ s' => Q .next s') it s₂) E s₁) E s)
    (hs : ∀ x, foldedSetIterable iter env x = pure x := by intro _; rfl) :
    wpAny (model prog w) A (exec (.Assign [.Name y py] (.ListComp elt [⟨.Name x px, iter, ifs, 0⟩] scope pos) spos) env) Q E s := by
  rw [exec_Assign_Name_used _ _ _ _ hsw]
  refine wpAny_bind (wpAny_standAt (wpAny_bind ?_))
  show wpAny _ A (do let _ ← comprehension (.ListComp elt [⟨.Name x px, iter, ifs, 0⟩] scope pos) scope env _ (newList []) false (eval iter env) (some (assign (.Name y py) env))) _ _ s
  refine wpAny_bind (wpAny_mono (wpAny_comprehension_free (use := some (assign (.Name y py) env)) (Q := fun _ s' => Q .next s') rfl hs hclos hkind hnames h)
    (fun _ s' hq => wpAny_pure (wpAny_pure hq)) fun _ _ e => e)
-- what is left once a comprehension is stored: the comprehension's own frame goes
def Stored (h₀ : Heap) (L C : Addr) (oC : Obj) (Q : Value → Shared → Prop) (s₂ : Shared) (d : Drawn) (s' : Shared) : Prop :=
  ∃ h'' tk m'' news'', s' = { s₂ with heap := h'', toks := tk, drawn := d } ∧ Fr h₀ L h'' m'' ∧ News h₀ L h'' ((C, oC) :: news'') ∧ (∀ p ∈ news'', p.1 ≠ C) ∧
        ∀ h', Fr h₀ L h' m'' → News h₀ L h' news'' → Q .none { s₂ with heap := h', toks := tk, drawn := d }
theorem Stored.intro {C : Addr} {oC : Obj} {Q : Value → Shared → Prop} {s₂ : Shared} {d : Drawn} {h'' : Heap} {tk : Nat} {m'' : Str → Option Value} {news'' : List (Addr × Obj)} (F : Fr h₀ L h'' m'') (N : News h₀ L h'' ((C, oC) :: news'')) (hn : ∀ p ∈ news'', p.1 ≠ C)
    (h : ∀ h', Fr h₀ L h' m'' → News h₀ L h' news'' → Q .none { s₂ with heap := h', toks := tk, drawn := d }) : Stored h₀ L C oC Q s₂ d { s₂ with heap := h'', toks := tk, drawn := d } := ⟨h'', tk, m'', news'', rfl, F, N, hn, h⟩
theorem assignCompAt {s₂ : Shared} {elt iter : PySem.Expr} {x y : Str} {px py : Pos} {ifs : List PySem.Expr} {scope : Scope} {pos : Pos} {I : Addr} {n : Nat} {P : Nat → Value → Prop} {St : Nat → Heap → Prop} {env : Env} {cl : List (Str × Addr)} {Q : Value → Shared → Prop} {news : List (Addr × Obj)}
    (hcell : ∀ y ∈ scope.names, y.2 ≠ .cell) (hkind : scope.kind = .function) (hx : scope.names.lookup x = some .local)
    (W : Walks prog w A I fp wr n P St) (hL : L ∉ fp) (hfp : ∀ b ∈ fp, b < s₂.heap.objs.size) (hwr : ∀ b ∈ wr, h₀.get? b = none) (hlive : ∀ i h, St i h → ∀ b ∈ wr, ∃ o, h.get? b = some o) (apx : Prop) (hap : apx → ∀ b ∈ fp, h₀.get? b = none → b ∈ wr)
    (F : Fr h₀ L s₂.heap m) (N : News h₀ L s₂.heap news) (hnw : ∀ p ∈ news, ∀ b ∈ wr, p.1 ≠ b) (hst : St 0 s₂.heap) (hsz : n ≤ sizeLine)
    (J : Nat → List Value → List (Addr × Obj) → Prop) (h0 : J 0 [] news)
    (step : CompStep prog w A h₀ env scope cl x ifs elt n P J s₂ apx)
    (done : ∀ D C oC h' tk d ys c news', s₂.heap.get? D = none → Fr h₀ L h' m → News h₀ L h' ((C, oC) :: (D, listObj ys c) :: news') → D ≠ C → (∀ p ∈ news', p.1 ≠ C ∧ p.1 ≠ D) → J n ys news' →
      wpAny (model prog w) A (assign (.Name y py) env (.ref D)) (fun _ s' => Stored h₀ L C oC Q s₂ d s') E { s₂ with heap := h', toks := tk, drawn := d }) :
    CompBlock prog w A E (.ListComp elt [⟨.Name x px, iter, ifs, 0⟩] scope pos) scope env cl (some (assign (.Name y py) env)) Q (.ref I) s₂ :=
  compBlock hcell hkind hx W hL hfp hwr hlive apx hap F N hnw hst hsz J h0 step fun D C oC h' tk d ys c news' hD F' N' hC hDC hn hJ => by
    obtain ⟨mC, oC', esC, epC, hCo, rC⟩ := hC
    have heq : oC' = oC := by have := (N' _ (.head _)).1; rw [hCo] at this; injection this
    subst heq
    refine wpAny_mono (done D C oC' h' tk d ys c news' hD F' N' hDC hn hJ) (fun _ s' hq => ?_) fun _ _ x => x
    obtain ⟨h'', tk'', m'', news'', rfl, F2, N2, hn2, hq⟩ := hq
    refine ⟨mC, ⟨oC', esC, epC, (N2 _ (.head _)).1, rC⟩, fun h3 hs => hq h3 (F2.change hs (N2 _ (.head _)).2.1 (N2 _ (.head _)).2.2) fun p hp => ⟨hs.extBut _ _ (hn2 p hp) (N2 p (.tail _ hp)).1, (N2 p (.tail _ hp)).2⟩⟩
end
end Mine
end
section
open PySem PySem.W PySem.Calls PyProof.Rows
set_option maxRecDepth 100000
namespace Mine
section
variable {prog : Program} {w : World} {A : Around} {E : Value → Shared → Prop} {h₀ : Heap} {L : Addr} {m : Str → Option Value} {s : Shared} {news : List (Addr × Obj)}
theorem CompStep.at {env : Env} {scope : Scope} {cl : List (Str × Addr)} {x : Str} {ifs : List PySem.Expr} {elt : PySem.Expr} {n : Nat} {P P' : Nat → Value → Prop} {J : Nat → List Value → List (Addr × Obj) → Prop} {s s₂ : Shared} {apx : Prop} (h : CompStep prog w A h₀ env scope cl x ifs elt n P J s apx) (hP : ∀ i v, P' i v → P i v) (hs : ∃ h tk d, s₂ = { s with heap := h, toks := tk, drawn := d }) :
    CompStep prog w A h₀ env scope cl x ifs elt n P' J s₂ apx := by
  obtain ⟨hh, tk, d, rfl⟩ := hs
  intro i v ys m₁ news₁ own g C s₁ Qs st hs hi hv
  obtain ⟨h2, tk2, d2, rfl⟩ := hs
  exact h i v ys m₁ news₁ own g C _ Qs st ⟨h2, tk2, d2, rfl⟩ hi (hP _ _ hv)
theorem live_list {I ax : Addr} {items : Array Value} : ∀ (i : Nat) (h : Heap), (h.IsListIter I ax i ∧ h.IsList ax items) → ∀ b ∈ [I], ∃ o, h.get? b = some o := fun _ _ st b hb => by
  rw [List.mem_singleton] at hb; subst hb
  obtain ⟨o, ho, _⟩ := st.1
  exact ⟨o, ho⟩
theorem live_range {I : Addr} {a c : Int} {n : Nat} : ∀ (i : Nat) (h : Heap), IsRangeIter h I (a + (i : Nat) * c) ((n : Int) - (i : Nat)) c → ∀ b ∈ [I], ∃ o, h.get? b = some o := fun _ _ st b hb => by
  rw [List.mem_singleton] at hb; subst hb
  exact ⟨_, st⟩
theorem ap_list {I l : Addr} : (h₀.get? l).isSome = true → ∀ b ∈ [I, l], h₀.get? b = none → b ∈ [I] := fun hs b hb e => by
  rcases List.mem_cons.mp hb with rfl | hb
  · exact .head _
  · rw [List.mem_singleton] at hb; subst hb
    rw [e] at hs; cases hs
theorem ap_range {I : Addr} : True → ∀ b ∈ [I], h₀.get? b = none → b ∈ [I] := fun _ _ hb _ => hb
theorem size_none (F : Fr h₀ L s.heap m) : ∀ b ∈ [s.heap.objs.size], h₀.get? b = none := fun b hb => by rw [List.mem_singleton.mp hb]; exact fresh_none F
theorem lt_locals (F : Fr h₀ L s.heap m) : L ≠ s.heap.objs.size := Nat.ne_of_lt F.ns.lt
theorem obj_list {h : Heap} {l : Addr} {vs : List Value} {c : Nat} (hl : h.get? l = some (listObj vs c)) : h.IsList l vs.toArray := ⟨_, hl, rfl, _, rfl⟩
theorem evalCompList {elt iter : PySem.Expr} {x : Str} {px : Pos} {ifs : List PySem.Expr} {scope : Scope} {pos : Pos} {l : Addr} {vs : List Value} {c : Nat} {env : Env} {cl : List (Str × Addr)} {Q : Value → Shared → Prop}
    (hcell : ∀ y ∈ scope.names, y.2 ≠ .cell) (hkind : scope.kind = .function) (hx : scope.names.lookup x = some .local) (hh : A.handled = none)
    (F : Fr h₀ L s.heap m) (N : News h₀ L s.heap news) (hl : s.heap.get? l = some (listObj vs c)) (hlL : l ≠ L) (hsz : vs.length ≤ 1000)
    (J : Nat → List Value → List (Addr × Obj) → Prop) (h0 : J 0 [] news)
    (step : CompStep prog w A h₀ env scope cl x ifs elt vs.length (fun i v => vs[i]? = some v) J s ((h₀.get? l).isSome = true))
    (done : ∀ D h' tk d ys c news', s.heap.get? D = none → Fr h₀ L h' m → News h₀ L h' ((D, listObj ys c) :: news') → (∀ p ∈ news', p.1 ≠ D) → J vs.length ys news' → Q (.ref D) { s with heap := h', toks := tk, drawn := d }) :
    wpAny (model prog w) A (pyIter (.ref l)) (fun it s₂ => CompBlock prog w A E (.ListComp elt [⟨.Name x px, iter, ifs, 0⟩] scope pos) scope env cl none Q it s₂) E s := by
  have hls := Heap.lt_size hl
  have hne : l ≠ s.heap.objs.size := Nat.ne_of_lt hls
  refine wpAny_pyIter_list (obj_list hl) ?_
  refine evalCompAt hcell hkind hx (Walks.list hh _ l hne vs.toArray) ?_ ?_ (size_none F) live_list _ ap_list (F.push _) (N.pushKeep _) ?_ ⟨⟨_, Heap.get?_push_size _ rfl, rfl, rfl⟩, (obj_list hl).push _⟩ (by rw [List.size_toArray, sizeLine_eq]; omega) J h0 ?_ ?_
  · intro hm
    rcases List.mem_cons.mp hm with e | hm
    · exact lt_locals F e
    · exact hlL (List.mem_singleton.mp hm).symm
  · intro b hb
    show b < (s.heap.push _).objs.size
    rw [Heap.size_push]
    rcases List.mem_cons.mp hb with rfl | hb
    · exact Nat.lt_succ_self _
    · rw [List.mem_singleton.mp hb]; exact Nat.lt_succ_of_lt hls
  · intro p hp b hb
    rw [List.mem_singleton.mp hb]
    exact N.apart p hp
  · rw [List.size_toArray]
    exact step.at (fun i v hv => by simpa using hv) ⟨_, _, _, rfl⟩
  · intro D h' tk d ys c news' hD F' N' hn hJ
    rw [List.size_toArray] at hJ
    refine done D h' tk d ys c news' ?_ F' N' hn hJ
    cases e : s.heap.get? D with
    | none => rfl
    | some o => have := Heap.get?_push_of_some { cls := .type "list_iterator", data := .fields #[.ref l, .int 0 0] } e; rw [hD] at this; cases this
theorem assignCompList {elt iter : PySem.Expr} {x y : Str} {px py : Pos} {ifs : List PySem.Expr} {scope : Scope} {pos : Pos} {l : Addr} {vs : List Value} {c : Nat} {env : Env} {cl : List (Str × Addr)} {Q : Value → Shared → Prop}
    (hcell : ∀ y ∈ scope.names, y.2 ≠ .cell) (hkind : scope.kind = .function) (hx : scope.names.lookup x = some .local) (hh : A.handled = none)
    (F : Fr h₀ L s.heap m) (N : News h₀ L s.heap news) (hl : s.heap.get? l = some (listObj vs c)) (hlL : l ≠ L) (hsz : vs.length ≤ 1000)
    (J : Nat → List Value → List (Addr × Obj) → Prop) (h0 : J 0 [] news)
    (step : CompStep prog w A h₀ env scope cl x ifs elt vs.length (fun i v => vs[i]? = some v) J s ((h₀.get? l).isSome = true))
    (done : ∀ D C oC h' tk d ys c news', s.heap.get? D = none → Fr h₀ L h' m → News h₀ L h' ((C, oC) :: (D, listObj ys c) :: news') → D ≠ C → (∀ p ∈ news', p.1 ≠ C ∧ p.1 ≠ D) → J vs.length ys news' →
      wpAny (model prog w) A (assign (.Name y py) env (.ref D)) (fun _ s' => Stored h₀ L C oC Q s d s') E { s with heap := h', toks := tk, drawn := d }) :
    wpAny (model prog w) A (pyIter (.ref l)) (fun it s₂ => CompBlock prog w A E (.ListComp elt [⟨.Name x px, iter, ifs, 0⟩] scope pos) scope env cl (some (assign (.Name y py) env)) Q it s₂) E s := by
  have hls := Heap.lt_size hl
  have hne : l ≠ s.heap.objs.size := Nat.ne_of_lt hls
  refine wpAny_pyIter_list (obj_list hl) ?_
  refine assignCompAt hcell hkind hx (Walks.list hh _ l hne vs.toArray) ?_ ?_ (size_none F) live_list _ ap_list (F.push _) (N.pushKeep _) ?_ ⟨⟨_, Heap.get?_push_size _ rfl, rfl, rfl⟩, (obj_list hl).push _⟩ (by rw [List.size_toArray, sizeLine_eq]; omega) J h0 ?_ ?_
  · intro hm
    rcases List.mem_cons.mp hm with e | hm
    · exact lt_locals F e
    · exact hlL (List.mem_singleton.mp hm).symm
  · intro b hb
    show b < (s.heap.push _).objs.size
    rw [Heap.size_push]
    rcases List.mem_cons.mp hb with rfl | hb
    · exact Nat.lt_succ_self _
    · rw [List.mem_singleton.mp hb]; exact Nat.lt_succ_of_lt hls
  · intro p hp b hb
    rw [List.mem_singleton.mp hb]
    exact N.apart p hp
  · rw [List.size_toArray]
    exact step.at (fun i v hv => by simpa using hv) ⟨_, _, _, rfl⟩
  · intro D C oC h' tk d ys c news' hD F' N' hDC hn hJ
    rw [List.size_toArray] at hJ
    refine done D C oC h' tk d ys c news' ?_ F' N' hDC hn hJ
    cases e : s.heap.get? D with
    | none => rfl
    | some o => have := Heap.get?_push_of_some { cls := .type "list_iterator", data := .fields #[.ref l, .int 0 0] } e; rw [hD] at this; cases this
theorem evalCompRange {elt iter : PySem.Expr} {x : Str} {px : Pos} {ifs : List PySem.Expr} {scope : Scope} {pos : Pos} {r : Addr} {b : Int} {n : Nat} {t u v : Tok} {env : Env} {cl : List (Str × Addr)} {Q : Value → Shared → Prop}
    (hcell : ∀ y ∈ scope.names, y.2 ≠ .cell) (hkind : scope.kind = .function) (hx : scope.names.lookup x = some .local) (hh : A.handled = none)
    (F : Fr h₀ L s.heap m) (N : News h₀ L s.heap news) (hr : IsRange s.heap r 0 b 1 t u v) (hb : b = (n : Int)) (hsz : n ≤ 1000)
    (J : Nat → List Value → List (Addr × Obj) → Prop) (h0 : J 0 [] news)
    (step : CompStep prog w A h₀ env scope cl x ifs elt n (fun i v => ∃ t, v = .int i t) J s True)
    (done : ∀ D h' tk d ys c news', s.heap.get? D = none → Fr h₀ L h' m → News h₀ L h' ((D, listObj ys c) :: news') → (∀ p ∈ news', p.1 ≠ D) → J n ys news' → Q (.ref D) { s with heap := h', toks := tk, drawn := d }) :
    wpAny (model prog w) A (pyIter (.ref r)) (fun it s₂ => CompBlock prog w A E (.ListComp elt [⟨.Name x px, iter, ifs, 0⟩] scope pos) scope env cl none Q it s₂) E s := by
  subst hb
  have hrs : Builtin.Range.rangeSize 0 (n : Int) 1 = (n : Int) := by unfold Builtin.Range.rangeSize; rw [if_pos (by decide)]; split <;> omega
  refine wpAny_pyIter_range hr ?_ ?_
  · exact small_one (by omega) (by omega) (by omega) (by omega)
  refine evalCompAt hcell hkind hx (Walks.range hh _ 0 1 n) ?_ ?_ (size_none F) live_range _ ap_range (F.push _) (N.pushKeep _) ?_ ?_ (by rw [sizeLine_eq]; omega) J h0 ?_ ?_
  · exact fun hm => lt_locals F (List.mem_singleton.mp hm)
  · intro b hb
    show b < (s.heap.push _).objs.size
    rw [Heap.size_push, List.mem_singleton.mp hb]
    exact Nat.lt_succ_self _
  · intro p hp b hb
    rw [List.mem_singleton.mp hb]
    exact N.apart p hp
  · have := Heap.get?_push_size s.heap (o := { cls := .type "range_iterator", data := .fields #[rawInt 0, rawInt (Builtin.Range.rangeSize 0 n 1), rawInt 1] }) rfl
    rw [hrs] at this ⊢
    simpa [IsRangeIter, rawInt] using this
  · exact step.at (fun i v hv => by obtain ⟨t, rfl⟩ := hv; exact ⟨t, by simp⟩) ⟨_, _, _, rfl⟩
  · intro D h' tk d ys c news' hD F' N' hn hJ
    refine done D h' tk d ys c news' ?_ F' N' hn hJ
    cases e : s.heap.get? D with
    | none => rfl
    | some o => have := Heap.get?_push_of_some { cls := .type "range_iterator", data := .fields #[rawInt 0, rawInt (Builtin.Range.rangeSize 0 n 1), rawInt 1] } e; rw [hD] at this; cases this
-- loops over a list, and over a range that goes down
def ForStep (prog : Program) (w : World) (A : Around) (h₀ : Heap) (env : Env) (target : PySem.Expr) (body : List Stmt) (n : Nat) (P : Nat → Value → Prop) (J : Nat → (Str → Option Value) → List (Addr × Obj) → Prop) (s₂ : Shared) (apx : Prop) : Prop :=
  ∀ i v m₁ news₁ own (s₁ : Shared) (Qs : Flow → Shared → Prop), (∃ h tk d, s₁ = { s₂ with heap := h, toks := tk, drawn := d }) → i < n → P i v → J i m₁ news₁ → Fr h₀ env.locals s₁.heap m₁ → News h₀ env.locals s₁.heap (news₁ ++ own) → (apx → ∀ p ∈ own, ∀ q ∈ news₁, p.1 ≠ q.1) →
      (∀ h' tk d m₂ news₂, Fr h₀ env.locals h' m₂ → News h₀ env.locals h' (news₂ ++ own) → (∀ p ∈ news₂, p.1 ∈ news₁.map (·.1) ∨ s₁.heap.get? p.1 = none ∨ ∀ q ∈ own, p.1 ≠ q.1) → J (i + 1) m₂ news₂ → Qs .next { s₁ with heap := h', toks := tk, drawn := d } ∧ Qs .cont { s₁ with heap := h', toks := tk, drawn := d }) →
      wpAny (model prog w) A (assign target env v) (fun _ s => wpAny (model prog w) A (execs body env) Qs (fun _ _ => False) s) (fun _ _ => False) s₁
theorem ForStep.at {env : Env} {target : PySem.Expr} {body : List Stmt} {n : Nat} {P P' : Nat → Value → Prop} {J : Nat → (Str → Option Value) → List (Addr × Obj) → Prop} {s s₂ : Shared} {apx : Prop} (h : ForStep prog w A h₀ env target body n P J s apx) (hP : ∀ i v, P' i v → P i v) (hs : ∃ h tk d, s₂ = { s with heap := h, toks := tk, drawn := d }) :
    ForStep prog w A h₀ env target body n P' J s₂ apx := by
  obtain ⟨hh, tk, d, rfl⟩ := hs
  intro i v m₁ news₁ own s₁ Qs hs hi hv
  obtain ⟨h2, tk2, d2, rfl⟩ := hs
  exact h i v m₁ news₁ own _ Qs ⟨h2, tk2, d2, rfl⟩ hi (hP _ _ hv)
theorem forList {env : Env} {target : PySem.Expr} {body : List Stmt} {R : Shared → Value → Result → Shared → Prop} {Q : Flow → Shared → Prop} {l : Addr} {vs : List Value} {c : Nat} (hh : A.handled = none)
    (F : Fr h₀ env.locals s.heap m) (N : News h₀ env.locals s.heap news) (hl : s.heap.get? l = some (listObj vs c)) (hlL : l ≠ env.locals)
    (J : Nat → (Str → Option Value) → List (Addr × Obj) → Prop) (h0 : J 0 m news)
    (step : ForStep prog w A h₀ env target body vs.length (fun i v => vs[i]? = some v) J s ((h₀.get? l).isSome = true))
    (done : ∀ h' tk d m' news', Fr h₀ env.locals h' m' → News h₀ env.locals h' news' → J vs.length m' news' → Q .next { s with heap := h', toks := tk, drawn := d })
    (hR : ∀ it s₂ f s', Q f s' → R s₂ it (.ok f) s') (ht : ∀ it v, letOwnedTupleGo target it v = pure () := by intro _ _; rfl) :
    wpAny (model prog w) A (pyIter (.ref l)) (fun it s₂ => codeAny (model prog w) A (.forLoop target it body [] env) (R s₂ it) s₂) E s := by
  have hls := Heap.lt_size hl
  have hne : l ≠ s.heap.objs.size := Nat.ne_of_lt hls
  refine wpAny_pyIter_list (obj_list hl) ?_
  refine forAt (Walks.list hh _ l hne vs.toArray) ?_ (size_none F) live_list _ ap_list ⟨⟨_, Heap.get?_push_size _ rfl, rfl, rfl⟩, (obj_list hl).push _⟩ (F.push _) (N.pushKeep _) ?_ J h0 ?_ ?_ (hR _ _) (ht _)
  · intro hm
    rcases List.mem_cons.mp hm with e | hm
    · exact lt_locals F e
    · exact hlL (List.mem_singleton.mp hm).symm
  · intro p hp b hb
    rw [List.mem_singleton.mp hb]
    exact N.apart p hp
  · rw [List.size_toArray]
    exact step.at (P' := fun i v => vs.toArray[i]? = some v) (fun i v hv => by simpa using hv) ⟨_, _, _, rfl⟩
  · intro h' tk d m' news' F' N' hJ
    rw [List.size_toArray] at hJ
    exact done h' tk d m' news' F' N' hJ
theorem forDown {env : Env} {target : PySem.Expr} {body : List Stmt} {R : Shared → Value → Result → Shared → Prop} {Q : Flow → Shared → Prop} {r : Addr} {a : Int} {n : Nat} {t u v : Tok} (hh : A.handled = none)
    (F : Fr h₀ env.locals s.heap m) (N : News h₀ env.locals s.heap news) (hr : IsRange s.heap r a (-1) (-1) t u v) (ha : a = (n : Int) - 1) (hsz : n ≤ 1000)
    (J : Nat → (Str → Option Value) → List (Addr × Obj) → Prop) (h0 : J 0 m news)
    (step : ForStep prog w A h₀ env target body n (fun i v => ∃ t, v = .int ((n : Int) - 1 - i) t) J s True)
    (done : ∀ h' tk d m' news', Fr h₀ env.locals h' m' → News h₀ env.locals h' news' → J n m' news' → Q .next { s with heap := h', toks := tk, drawn := d })
    (hR : ∀ it s₂ f s', Q f s' → R s₂ it (.ok f) s') (ht : ∀ it v, letOwnedTupleGo target it v = pure () := by intro _ _; rfl) :
    wpAny (model prog w) A (pyIter (.ref r)) (fun it s₂ => codeAny (model prog w) A (.forLoop target it body [] env) (R s₂ it) s₂) E s := by
  subst ha
  have hrs : Builtin.Range.rangeSize ((n : Int) - 1) (-1) (-1) = (n : Int) := by
    unfold Builtin.Range.rangeSize
    rw [if_neg (by decide), show (-(-1) : Int) = 1 from rfl]
    split <;> omega
  refine wpAny_pyIter_range hr ?_ ?_
  · unfold Builtin.Range.small; rw [hrs]; simp only [Builtin.Range.rangeFitsLong, Bool.and_eq_true, Bool.or_eq_true, decide_eq_true_eq, beq_iff_eq, show ¬ ((-1 : Int) > 0) by decide, if_false]; omega
  refine forAt (Walks.range hh _ ((n : Int) - 1) (-1) n) ?_ (size_none F) live_range _ ap_range ?_ (F.push _) (N.pushKeep _) ?_ J h0 ?_ done (hR _ _) (ht _)
  · exact fun hm => lt_locals F (List.mem_singleton.mp hm)
  · have := Heap.get?_push_size s.heap (o := { cls := .type "range_iterator", data := .fields #[rawInt ((n : Int) - 1), rawInt (Builtin.Range.rangeSize ((n : Int) - 1) (-1) (-1)), rawInt (-1)] }) rfl
    rw [hrs] at this ⊢
    simpa [IsRangeIter, rawInt] using this
  · intro p hp b hb
    rw [List.mem_singleton.mp hb]
    exact N.apart p hp
  · exact step.at (fun i v hv => by obtain ⟨t, rfl⟩ := hv; exact ⟨t, by congr 1; omega⟩) ⟨_, _, _, rfl⟩
def ForBlock (prog : Program) (w : World) (A : Around) (E : Value → Shared → Prop) (env : Env) (target : PySem.Expr) (body : List Stmt) (Q : Flow → Shared → Prop) (it : Value) (s₂ : Shared) : Prop :=
  codeAny (model prog w) A (.forLoop target it body [] env) (fun r s' => match r with | .ok f => Q f s' | .error e => cameBackBy (model prog w) A env E e s') s₂
theorem execFor {env : Env} {target iter : PySem.Expr} {body : List Stmt} {pos : Pos} {Q : Flow → Shared → Prop} (h : wpAny (model prog w) A (eval iter env) (fun xv s₁ => wpAny (model prog w) A (pyIter xv) (fun it s₂ => ForBlock prog w A E env target body Q it s₂) E s₁) E s)
    (hs : ∀ x, foldedSetIterable iter env x = pure x := by intro _; rfl) : wpAny (model prog w) A (exec (.For target iter body [] pos) env) Q E s := wpAny_For h hs
theorem forListB {env : Env} {target : PySem.Expr} {body : List Stmt} {Q : Flow → Shared → Prop} {l : Addr} {vs : List Value} {c : Nat} (hh : A.handled = none)
    (F : Fr h₀ env.locals s.heap m) (N : News h₀ env.locals s.heap news) (hl : s.heap.get? l = some (listObj vs c)) (hlL : l ≠ env.locals)
    (J : Nat → (Str → Option Value) → List (Addr × Obj) → Prop) (h0 : J 0 m news)
    (step : ForStep prog w A h₀ env target body vs.length (fun i v => vs[i]? = some v) J s ((h₀.get? l).isSome = true))
    (done : ∀ h' tk d m' news', Fr h₀ env.locals h' m' → News h₀ env.locals h' news' → J vs.length m' news' → Q .next { s with heap := h', toks := tk, drawn := d })
    (ht : ∀ it v, letOwnedTupleGo target it v = pure () := by intro _ _; rfl) :
    wpAny (model prog w) A (pyIter (.ref l)) (fun it s₂ => ForBlock prog w A E env target body Q it s₂) E s :=
  forList (R := fun _ _ r s' => match r with | .ok f => Q f s' | .error e => cameBackBy (model prog w) A env E e s') (Q := Q) hh F N hl hlL J h0 step done (fun _ _ _ _ h => h) ht
theorem forDownB {env : Env} {target : PySem.Expr} {body : List Stmt} {Q : Flow → Shared → Prop} {r : Addr} {a : Int} {n : Nat} {t u v : Tok} (hh : A.handled = none)
    (F : Fr h₀ env.locals s.heap m) (N : News h₀ env.locals s.heap news) (hr : IsRange s.heap r a (-1) (-1) t u v) (ha : a = (n : Int) - 1) (hsz : n ≤ 1000)
    (J : Nat → (Str → Option Value) → List (Addr × Obj) → Prop) (h0 : J 0 m news)
    (step : ForStep prog w A h₀ env target body n (fun i v => ∃ t, v = .int ((n : Int) - 1 - i) t) J s True)
    (done : ∀ h' tk d m' news', Fr h₀ env.locals h' m' → News h₀ env.locals h' news' → J n m' news' → Q .next { s with heap := h', toks := tk, drawn := d })
    (ht : ∀ it v, letOwnedTupleGo target it v = pure () := by intro _ _; rfl) :
    wpAny (model prog w) A (pyIter (.ref r)) (fun it s₂ => ForBlock prog w A E env target body Q it s₂) E s :=
  forDown (R := fun _ _ r s' => match r with | .ok f => Q f s' | .error e => cameBackBy (model prog w) A env E e s') (Q := Q) hh F N hr ha hsz J h0 step done (fun _ _ _ _ h => h) ht
theorem walks_wide {I : Addr} {fp wr wr' : List Addr} {n : Nat} {P : Nat → Value → Prop} {St : Nat → Heap → Prop} (W : Walks prog w A I fp wr n P St) (h1 : ∀ b ∈ wr, b ∈ wr') (h2 : ∀ b ∈ wr', b ∈ fp) : Walks prog w A I fp wr' n P St where
  sub := h2
  frame := W.frame
  item := fun i s Q E hi st hQ => W.item i s Q E hi st fun v h' tk a b c => hQ v h' tk a b fun x o hx e => c x o (fun hm => hx (h1 x hm)) e
  done := fun s Q E st hQ => W.done s Q E st fun h' tk c => hQ h' tk fun x o hx e => c x o (fun hm => hx (h1 x hm)) e
  self := W.self
theorem live_listN {I ax : Addr} {items : Array Value} : ∀ (i : Nat) (h : Heap), (h.IsListIter I ax i ∧ h.IsList ax items) → ∀ b ∈ [I, ax], ∃ o, h.get? b = some o := fun _ _ st b hb => by
  rcases List.mem_cons.mp hb with rfl | hb
  · obtain ⟨o, ho, _⟩ := st.1
    exact ⟨o, ho⟩
  · rw [List.mem_singleton] at hb; subst hb
    obtain ⟨o, ho, _⟩ := st.2
    exact ⟨o, ho⟩
-- a loop over a list of the ledger: the list itself is among what the walk owns
theorem forListNB {env : Env} {target : PySem.Expr} {body : List Stmt} {Q : Flow → Shared → Prop} {l : Addr} {vs : List Value} {c : Nat} (hh : A.handled = none)
    (F : Fr h₀ env.locals s.heap m) (N : News h₀ env.locals s.heap news) (hl : s.heap.get? l = some (listObj vs c)) (hlL : l ≠ env.locals) (hl0 : h₀.get? l = none) (hln : ∀ p ∈ news, p.1 ≠ l)
    (J : Nat → (Str → Option Value) → List (Addr × Obj) → Prop) (h0 : J 0 m news)
    (step : ForStep prog w A h₀ env target body vs.length (fun i v => vs[i]? = some v) J s True)
    (done : ∀ h' tk d m' news', Fr h₀ env.locals h' m' → News h₀ env.locals h' news' → J vs.length m' news' → Q .next { s with heap := h', toks := tk, drawn := d })
    (ht : ∀ it v, letOwnedTupleGo target it v = pure () := by intro _ _; rfl) :
    wpAny (model prog w) A (pyIter (.ref l)) (fun it s₂ => ForBlock prog w A E env target body Q it s₂) E s := by
  have hls := Heap.lt_size hl
  have hne : l ≠ s.heap.objs.size := Nat.ne_of_lt hls
  refine wpAny_pyIter_list (obj_list hl) ?_
  refine forAt (walks_wide (wr' := [s.heap.objs.size, l]) (Walks.list hh _ l hne vs.toArray) (fun b hb => by rw [List.mem_singleton.mp hb]; exact .head _) (fun b hb => hb)) ?_ (fun b hb => ?_) live_listN True (fun _ b hb _ => hb) ⟨⟨_, Heap.get?_push_size _ rfl, rfl, rfl⟩, (obj_list hl).push _⟩ (F.push _) (N.pushKeep _) ?_ J h0 ?_ ?_ (fun _ _ h => h) (ht _)
  · intro hm
    rcases List.mem_cons.mp hm with e | hm
    · exact lt_locals F e
    · exact hlL (List.mem_singleton.mp hm).symm
  · rcases List.mem_cons.mp hb with rfl | hb
    · exact fresh_none F
    · rw [List.mem_singleton.mp hb]; exact hl0
  · intro p hp b hb
    rcases List.mem_cons.mp hb with rfl | hb
    · exact N.apart p hp
    · rw [List.mem_singleton.mp hb]; exact hln p hp
  · rw [List.size_toArray]
    exact step.at (P' := fun i v => vs.toArray[i]? = some v) (fun i v hv => by simpa using hv) ⟨_, _, _, rfl⟩
  · intro h' tk d m' news' F' N' hJ
    rw [List.size_toArray] at hJ
    exact done h' tk d m' news' F' N' hJ
end
end Mine
end
section
open PySem PySem.W PySem.Calls PyProof.Rows
set_option maxRecDepth 100000
namespace Mine
theorem offIN : True := by
  w_top off
  exact True.intro
local macro_rules | `(tactic| walk_at "pad") => `(tactic| skip)
-- the strs in a list
def StrsV (vs : List Value) (ms : List Str) : Prop := ms.length = vs.length ∧ ∀ (i : Nat) (v : Value), vs[i]? = some v → ∃ (k : Str) (t : Tok), ms[i]? = some k ∧ v = .str k t
theorem strsV_nil {D : List Str} : StrsV [] (D.take 0) := ⟨by simp, fun i v h => by simp at h⟩
theorem strsV_snoc {ys : List Value} {D : List Str} {i : Nat} {r : Str} {t : Tok} (h : StrsV ys (D.take i)) (hr : D[i]? = some r) : StrsV (ys ++ [.str r t]) (D.take (i + 1)) := by
  have hi : i < D.length := (List.getElem?_eq_some_iff.mp hr).1
  have e : D.take (i + 1) = D.take i ++ [r] := by rw [List.take_add_one, hr]; rfl
  rw [e]
  refine ⟨by rw [List.length_append, List.length_append, h.1]; rfl, fun j v hj => ?_⟩
  have hl := h.1
  by_cases hlt : j < ys.length
  · rw [List.getElem?_append_left hlt] at hj
    rw [List.getElem?_append_left (by rw [hl]; exact hlt)]
    exact h.2 j v hj
  · rw [List.getElem?_append_right (Nat.le_of_not_lt hlt)] at hj
    rw [List.getElem?_append_right (by rw [hl]; exact Nat.le_of_not_lt hlt), hl]
    have hj0 : j - ys.length = 0 := by
      cases hq : j - ys.length with
      | zero => rfl
      | succ q => rw [hq] at hj; simp at hj
    rw [hj0] at hj ⊢
    simp at hj
    exact ⟨r, t, by simp, hj.symm⟩
noncomputable def AllNe : List (Addr × Obj) → Addr → Prop
  | [], _ => True
  | p :: r, d => (@Ne Nat p.1 d) ∧ AllNe r d
theorem allNe_of : ∀ {l : List (Addr × Obj)} {d : Addr}, (∀ p ∈ l, p.1 ≠ d) → AllNe l d
  | [], _, _ => trivial
  | p :: _, _, h => ⟨h p (.head _), allNe_of fun q hq => h q (.tail _ hq)⟩
theorem hold {g h : Heap} {L : Addr} {news : List (Addr × Obj)} (N : News g L h news) : ∃ nws, nws = news ∧ News g L h nws := ⟨news, rfl, N⟩
theorem truthy_st {prog : Program} {w : World} {A : Around} {E : Value → Shared → Prop} {s : Shared} {g : Heap} {L l : Addr} {m : Str → Option Value} {vs : List Value} {c : Nat} {b : Bool} {Q : Bool → Shared → Prop} (F : Fr g L s.heap m) (hl : g.get? l = some (listObj vs c)) (hn : vs.length ≤ 1000) (hb : vs.isEmpty = b)
    (h : ∀ tk, Q (!b) { s with toks := tk }) : wpAny (model prog w) A (truthy (.ref l)) Q E s := by
  refine wpAny_truthy_list (items := vs.toArray) ⟨_, F.keep _ _ hl, rfl, _, rfl⟩ (by rw [List.size_toArray]; omega) ?_
  have : vs.toArray.isEmpty = b := by rw [← hb]; simp
  rw [this]; exact h _
-- a reader, as a piece of a ledger
def RdL (w : World) (l : List (Addr × Obj)) (x ig : Addr) (M D : List Str) (n : Nat) (seen : Str → Option Int) : Prop :=
  ∃ dx ms ds oms oig dvs dc a1 a2 a3 b1 b2 b3 n0, l = [(x, instObj 159 dx), (dx, slots3 a1 a2 a3 b1 b2 b3 ms ds ig n0), (ms, oms), (ds, listObj dvs dc), (ig, oig)] ∧
    StrSetOf PySem.Challenge.rw_il0011_01.row.prog w oms M ∧ Seen PySem.Challenge.rw_il0011_01.row.prog w oig n seen ∧ StrsV dvs D ∧ (ig == sysModules) = false ∧ oig.cls = .type "dict"
theorem seen_one {prog : Program} {w : World} {o : Obj} {k : Str} {t u : Tok} {b : Int} (D : o.IsDictOf (strKind prog w) (strPairs [(.str k t, .int b u)])) : Seen prog w o 1 (put (fun _ => none) k b) := by
  refine ⟨_, D, Nat.le_refl _, fun x => ?_⟩
  unfold put
  by_cases hx : x = k
  · rw [if_pos hx, hx]
    exact ⟨(fun e => by cases e), fun b' e => ⟨u, by injection e with e; rw [← e]; show valueAt [(k, Value.int b u)] k = _; simp [valueAt]⟩⟩
  · rw [if_neg hx]
    exact ⟨(fun _ => by show valueAt [(k, Value.int b u)] x = _; have : ¬ k = x := fun e => hx e.symm; simp [valueAt, this]), fun b' e => by cases e⟩
local macro_rules | `(tactic| walk_at "truthy ref") => `(tactic| (refine truthy_st (by with_reducible assumption) (by with_reducible assumption) (by with_reducible assumption) (by with_reducible assumption) ?_; intro _))
theorem newSet0 {prog : Program} {w : World} {A : Around} {E : Value → Shared → Prop} {s : Shared} {g : Heap} {L : Addr} {m : Str → Option Value} {news : List (Addr × Obj)} {Q : Value → Shared → Prop} (F : Fr g L s.heap m) (N : News g L s.heap news)
    (h : ∀ d h' o, Fr g L h' m → News g L h' ((d, o) :: news) → (∀ p ∈ news, p.1 < d) → StrSetOf prog w o [] → Q (.ref d) { s with heap := h' }) : wpAny (model prog w) A (call (.type "set") []) Q E s :=
  call_set0 (h _ _ _ (F.push _) (N.push F (fresh0 w) rfl) (fun p hp => Heap.lt_size (N p hp).1) strSet_fresh)
theorem newSetL {prog : Program} {w : World} {A : Around} {E : Value → Shared → Prop} {s : Shared} {g : Heap} {L l : Addr} {m : Str → Option Value} {news : List (Addr × Obj)} {vs : List Value} {c : Nat} {ms : List Str} {Q : Value → Shared → Prop} (hh : A.handled = none) (F : Fr g L s.heap m) (N : News g L s.heap news)
    (hl : g.get? l = some (listObj vs c)) (hn : vs.length ≤ 1000) (hv : StrsV vs ms)
    (h : ∀ d h' o tk, Fr g L h' m → News g L h' ((d, o) :: news) → (∀ p ∈ news, p.1 < d) → StrSetOf prog w o ms → Q (.ref d) { s with heap := h', toks := tk }) : wpAny (model prog w) A (call (.type "set") [.ref l]) Q E s := by
  have hlt : L < s.heap.objs.size := F.ns.lt
  refine call_setL (items := vs.toArray) (fun i => ms.getD i (Str.ofString "")) hh ⟨_, F.keep _ _ hl, rfl, _, rfl⟩ (fun i v hi => ?_) (by rw [List.size_toArray]; unfold scanBound; omega) fun h' tk o hk ho hS => ?_
  · obtain ⟨k, t, hk, rfl⟩ := hv.2 i v (by simpa using hi)
    exact ⟨t, by rw [List.getD_eq_getElem?_getD, hk]; rfl⟩
  · have e : (List.range vs.toArray.size).map (fun i => ms.getD i (Str.ofString "")) = ms := by
      rw [List.size_toArray, ← hv.1]
      refine List.ext_getElem (by simp) fun i h1 h2 => ?_
      simp at h1
      simp [h1]
    rw [e] at hS
    refine h _ h' o tk (F.after hk) (fun p hp => ?_) (fun p hp => Heap.lt_size (N p hp).1) hS
    rcases List.mem_cons.mp hp with rfl | hp
    · refine ⟨ho, Ne.symm (Nat.ne_of_lt hlt), ?_⟩
      exact fresh_none F
    · exact ⟨hk _ _ (N p hp).1, (N p hp).2⟩
local macro_rules | `(tactic| walk_at "call type:set nil nil") => `(tactic| (refine newSet0 (by with_reducible assumption) (by with_reducible assumption) ?_; intro d' h' o' F' N' l1 S'; k_lt l1))
local macro_rules | `(tactic| walk_at "call type:set") => `(tactic| ((with_reducible show wpAny _ _ (call (Value.type "set") [Value.ref _]) _ _ _); refine newSetL rfl (by with_reducible assumption) (by with_reducible assumption) (by with_reducible assumption) (by with_reducible assumption) (by with_reducible assumption) ?_; intro d' h' o' tk' F' N' l1 S'; k_lt l1))
section
variable {w : World} {dp un : Nat} {fr : Option (List Env)} {gd : Option (List Code)} {s : Shared} {loose : List Str} {mean : ExcName → Option Value} {mg mb : Str → Option Value} {Q E : Value → Shared → Prop} {h₀ : Heap} {L : Addr} {m : Str → Option Value} {news : List (Addr × Obj)}
theorem normpath_call {x r : Str} {t : Tok} (F : Fr h₀ L s.heap m) (N : News h₀ L s.heap news) (X : (hd.heap_39 w.params).In h₀) (T : Top hd.view_39 loose mean mg mb h₀) (hdp : dp < 870) (hu : un < 170) (hn : NormsTo w loose mean mg mb x r)
    (h : ∀ t' h' tk, Fr h₀ L h' m → News h₀ L h' news → Q (.str r t') { s with heap := h', toks := tk }) : wpAny (model PySem.Challenge.rw_il0011_01.row.prog w) (Ar dp un fr gd) (call (.ref 136) [.str x t]) Q E s :=
  wpAny_call (normpath x r t ⟨X.keeps F.keep, T.keeps F.keep⟩ hdp hu hn fun t' h' tk k => h t' h' tk (F.after k) (N.grown k))
end
local macro_rules | `(tactic| walk_at "call ref") => `(tactic| ((with_reducible show wpAny _ _ (call (Value.ref 136) [Value.str _ _]) _ _ _); refine normpath_call (by k_asm) (by k_asm) (by k_asm) (by k_asm) (by (dsimp only [Around.deeper]; omega)) (by (dsimp only [Around.deeper]; omega)) (by with_reducible assumption) ?_; intro t' h' tk F' N'))
section
variable {w : World} {dp un : Nat} {fr : Option (List Env)} {gd : Option (List Code)} {s : Shared} {loose : List Str} {mean : ExcName → Option Value} {mg mb : Str → Option Value} {R : Result → Shared → Prop}
  {Q E : Value → Shared → Prop} {h₀ : Heap} {L : Addr} {m : Str → Option Value} {news : List (Addr × Obj)}
set_option maxHeartbeats 2000000
theorem init {x dx ml dl : Addr} {mvs dvs : List Value} {mc dc : Nat}
    (hk : ∀ b o, h₀.get? b = some o → s.heap.get? b = some o) (N : ∀ q ∈ [(x, instObj 159 dx), (dx, dictOf [] 0)], s.heap.get? q.1 = some q.2 ∧ h₀.get? q.1 = none) (G : KT w loose mean mg mb h₀) (hdp : dp < 850) (hu : un < 150)
    (hxd : LT.lt (α := Nat) dx x) {M P D : List Str} (hPD : P.length = D.length) (hN : ∀ (i : Nat) (p r : Str), P[i]? = some p → D[i]? = some r → NormsTo w loose mean mg mb p r) (hM : StrsV mvs M) (hP : StrsV dvs P) (hmn : mvs.length ≤ 1000) (hdn : dvs.length ≤ 1000)
    (hml : h₀.get? ml = some (listObj mvs mc)) (hdl : h₀.get? dl = some (listObj dvs dc))
    (hR : ∀ ig l h' tk d, (∀ b o, h₀.get? b = some o → h'.get? b = some o) → RdL w l x ig M D 1 (put (fun _ => none) (Str.ofString "<string>") 1) → (∀ q ∈ l, h'.get? q.1 = some q.2 ∧ h₀.get? q.1 = none) → (l.map (·.1)).Nodup →
      (∀ q ∈ l, q.1 = x ∨ q.1 = dx ∨ s.heap.get? q.1 = none) → R (.ok (.ret .none)) { s with heap := h', toks := tk, drawn := d }) :
    codeAny (model PySem.Challenge.rw_il0011_01.row.prog w) (Ar dp un fr gd) (.call (.ref 149) ⟨[.ref x, .ref ml, .ref dl], []⟩) R s := by
  obtain ⟨X, T⟩ := G
  revert X; k_fill; intro X
  refine' enterH (K := hd.heap_39 w.params) [(Str.ofString "self", .ref x), (Str.ofString "modules", .ref ml), (Str.ofString "dirs", .ref dl)] hk N X T ?kd ?k6 ?k7 ?k9 ?kB ?_ ?c2 ?c3 ?c4 ?c5
  (((case k6 => k_is); (case kd => (simp only [recursionLimit] at *; omega)); (case k7 => k_is); (case k9 => first | exact BindsTo.of_eq rfl | exact binds_K (K := hd.heap_39 _) (Frag.In.keeps (by assumption) (by assumption)) rfl (by k_is) rfl rfl rfl); (case c5 => decide); (case kB => exact locs rfl); (case c2 => exact rfl); (case c3 => exact rfl); (case c4 => exact rfl)))
  intro g h₁ F' N' X' T' hg
  have hg0 : ∀ b o, h₀.get? b = some o → g.get? b = some o := fun b o e => hg b o (hk b o e) (fun hm => by
    obtain ⟨q, hq, rfl⟩ := List.mem_map.mp hm
    rw [(N q hq).2] at e; cases e)
  have hmlg : g.get? ml = some (listObj mvs mc) := hg0 _ _ hml
  have hdlg : g.get? dl = some (listObj dvs dc) := hg0 _ _ hdl
  have hdlL : dl ≠ s.heap.objs.size := Nat.ne_of_lt (Heap.lt_size (hk _ _ hdl))
  have fin : ∀ h' m' ms ds ig oms oig dvs' dcc a1 a2 a3 b1 b2 b3 n0 tk d (t u : Tok), Fr g s.heap.objs.size h' m' → News g s.heap.objs.size h' [(ig, oig), (ds, listObj dvs' dcc), (ms, oms), (x, instObj 159 dx), (dx, slots3 a1 a2 a3 b1 b2 b3 ms ds ig n0)] →
      (LT.lt (α := Nat) ds ig ∧ LT.lt (α := Nat) ms ig ∧ LT.lt (α := Nat) x ig ∧ LT.lt (α := Nat) dx ig) → (@Ne Nat ms ds ∧ @Ne Nat x ds ∧ @Ne Nat dx ds) → (LT.lt (α := Nat) x ms ∧ LT.lt (α := Nat) dx ms) → StrSetOf PySem.Challenge.rw_il0011_01.row.prog w oms M → StrsV dvs' D →
      oig.IsDictOf (strKind PySem.Challenge.rw_il0011_01.row.prog w) (strPairs [(.str (Str.ofString "<string>") t, .int 1 u)]) → (ig == sysModules) = false → R (.ok (.ret .none)) { s with heap := h', toks := tk, drawn := d } := by
    intro h' m' ms ds ig oms oig dvs' dcc a1 a2 a3 b1 b2 b3 n0 tk d t u FF NN hl1 hl2 hl3 hS hV hD hlow
    have hfresh : ∀ b, b ≠ x → b ≠ dx → g.get? b = none → s.heap.get? b = none := fun b h1 h2 h3 => by
      cases e : s.heap.get? b with
      | none => rfl
      | some o =>
        have := hg b o e (fun hm => by
          simp only [List.map_cons, List.map_nil, List.mem_cons, List.not_mem_nil, or_false] at hm
          exact hm.elim h1 h2)
        rw [h3] at this; cases this
    have hn0 : ∀ b, g.get? b = none → h₀.get? b = none := fun b e => by
      cases e' : h₀.get? b with
      | none => rfl
      | some o => rw [hg0 b o e'] at e; cases e
    have eN : ∀ q ∈ [(x, instObj 159 dx), (dx, slots3 a1 a2 a3 b1 b2 b3 ms ds ig n0), (ms, oms), (ds, listObj dvs' dcc), (ig, oig)], q ∈ [(ig, oig), (ds, listObj dvs' dcc), (ms, oms), (x, instObj 159 dx), (dx, slots3 a1 a2 a3 b1 b2 b3 ms ds ig n0)] := fun q hq => by
      simp only [List.mem_cons, List.not_mem_nil, or_false] at hq ⊢
      rcases hq with h | h | h | h | h
      · exact .inr (.inr (.inr (.inl h)))
      · exact .inr (.inr (.inr (.inr h)))
      · exact .inr (.inr (.inl h))
      · exact .inr (.inl h)
      · exact .inl h
    have hne : ∀ {a b : Addr}, LT.lt (α := Nat) a b → b ≠ a := fun h => Nat.ne_of_gt h
    refine hR ig [(x, instObj 159 dx), (dx, slots3 a1 a2 a3 b1 b2 b3 ms ds ig n0), (ms, oms), (ds, listObj dvs' dcc), (ig, oig)] h' tk d (fun b o e => FF.keep b o (hg0 b o e)) ⟨dx, ms, ds, oms, oig, dvs', dcc, a1, a2, a3, b1, b2, b3, n0, rfl, hS, seen_one hD, hV, hlow, ?_⟩ (fun q hq => ⟨(NN q (eN q hq)).1, hn0 _ (NN q (eN q hq)).2.2⟩) ?_ ?_
    · obtain ⟨_, _, hx, _⟩ := hD; exact hx.1
    · simp only [List.map_cons, List.map_nil, List.nodup_cons, List.mem_cons, List.not_mem_nil, or_false, not_or, not_false_eq_true, List.nodup_nil, and_true]
      exact ⟨⟨hne hxd, (hne hl3.1).symm, hl2.2.1, (hne hl1.2.2.1).symm⟩, ⟨(hne hl3.2).symm, hl2.2.2, (hne hl1.2.2.2).symm⟩, ⟨hl2.1, (hne hl1.2.1).symm⟩, (hne hl1.1).symm⟩
    · intro q hq
      have hgq := (NN q (eN q hq)).2.2
      simp only [List.mem_cons, List.not_mem_nil, or_false] at hq
      rcases hq with rfl | rfl | rfl | rfl | rfl
      · exact .inl rfl
      · exact .inr (.inl rfl)
      · exact .inr (.inr (hfresh _ (hne hl3.1) (hne hl3.2) hgq))
      · exact .inr (.inr (hfresh _ (Ne.symm hl2.2.1) (Ne.symm hl2.2.2) hgq))
      · exact .inr (.inr (hfresh _ (hne hl1.2.2.1) (hne hl1.2.2.2) hgq))
  have hMe : mvs.isEmpty = true → M = [] := fun h => by
    have h2 := hM.1
    rw [List.isEmpty_iff.mp h] at h2
    exact List.length_eq_zero_iff.mp h2
  have hDe : dvs.isEmpty = true → D = [] := fun h => by
    have h2 := hP.1
    rw [List.isEmpty_iff.mp h] at h2
    exact List.length_eq_zero_iff.mp (hPD.symm.trans h2)
  have hDl : D.take dvs.length = D := by rw [← hP.1, hPD, List.take_length]
  have hdlL : dl ≠ s.heap.objs.size := Nat.ne_of_lt (Heap.lt_size (hk _ _ hdl))
  cases hme : mvs.isEmpty with
  | true =>
    have hMn := hMe hme
    subst hMn
    cases hde : dvs.isEmpty with
    | true =>
      have hDn := hDe hde
      subst hDn
      (repeat' (first | (k_unfold; (try dsimp only)) | ((fail_if_success (with_reducible show wpAny _ _ (eval (PySem.Expr.ListComp _ _ _ _) _) _ _ _)); walk1) | (dsimp only;  (fail_if_success (with_reducible show wpAny _ _ (eval (PySem.Expr.ListComp _ _ _ _) _) _ _ _)); walk1)))
      dsimp only
      (with_reducible rename Fr _ _ _ _ => FR); (with_reducible rename News _ _ _ _ => NR)
      refine fin _ _ _ _ _ _ _ [] _ _ _ _ _ _ _ _ _ _ _ _ FR NR ?_ ?_ ?_ (by assumption) ⟨rfl, fun i v h => by simp at h⟩ (by assumption) (by assumption)
      all_goals omega
    | false =>
      (repeat' (first | (k_unfold; (try dsimp only)) | ((fail_if_success (with_reducible show wpAny _ _ (eval (PySem.Expr.ListComp _ _ _ _) _) _ _ _)); walk1) | (dsimp only;  (fail_if_success (with_reducible show wpAny _ _ (eval (PySem.Expr.ListComp _ _ _ _) _) _ _ _)); walk1)))
      refine evalComp (cl := []) rfl rfl (by decide) ?_
      (repeat' (first | (k_unfold; (try dsimp only)) | ((fail_if_success (with_reducible show wpAny _ _ (pyIter _) _ _ _)); walk1) | (dsimp only;  (fail_if_success (with_reducible show wpAny _ _ (pyIter _) _ _ _)); walk1)))
      (with_reducible rename Fr _ _ _ _ => FF); (with_reducible rename News _ _ _ _ => NF)
      obtain ⟨nws, hnws, NG⟩ := hold NF
      refine evalCompList (by decide) rfl rfl rfl FF NG (FF.keep _ _ hdlg) hdlL hdn (fun i ys nw => nw = nws ∧ StrsV ys (D.take i)) ⟨rfl, strsV_nil⟩ ?_ ?_
      · rintro i v ys m₁ news₁ own g2 C s₁ Qs st ⟨hh, tk, dr, rfl⟩ hi hv ⟨rfl, hys⟩ F₁ N₁ ho hy hn
        obtain ⟨p, u, hp, rfl⟩ := hP.2 i v hv
        have X2 := X'.keeps st
        have T2 := T'.keeps st
        clear FF NF NG
        have hi2 : i < D.length := by rw [← hPD]; exact (List.getElem?_eq_some_iff.mp hp).1
        have hnr := hN i p _ hp (List.getElem?_eq_getElem hi2)
        (repeat' (first | (k_unfold; (try dsimp only)) | walk1 | (dsimp only; walk1)))
        all_goals (try k_data)
        (with_reducible rename Fr _ _ _ _ => FR); (with_reducible rename News _ _ _ _ => NR)
        exact hy _ _ _ _ _ _ FR NR (fun q hq => .inl (List.mem_map_of_mem hq)) ⟨rfl, strsV_snoc hys (List.getElem?_eq_getElem hi2)⟩
      · rintro D' h' tk dr ys c news' hD' F' N' hn ⟨rfl, hys⟩
        subst hnws
        clear FF NF NG
        rw [hDl] at hys
        replace hn := allNe_of hn
        simp only [AllNe, and_true] at hn
        (repeat' (first | (k_unfold; (try dsimp only)) | walk1 | (dsimp only; walk1)))
        dsimp only
        (with_reducible rename Fr _ _ _ _ => FR); (with_reducible rename News _ _ _ _ => NR)
        refine fin _ _ _ _ _ _ _ _ _ _ _ _ _ _ _ _ _ _ _ _ FR NR ?_ ?_ ?_ (by assumption) hys (by assumption) (by assumption)
        all_goals omega
  | false =>
    cases hde : dvs.isEmpty with
    | true =>
      have hDn := hDe hde
      subst hDn
      (repeat' (first | (k_unfold; (try dsimp only)) | ((fail_if_success (with_reducible show wpAny _ _ (eval (PySem.Expr.ListComp _ _ _ _) _) _ _ _)); walk1) | (dsimp only;  (fail_if_success (with_reducible show wpAny _ _ (eval (PySem.Expr.ListComp _ _ _ _) _) _ _ _)); walk1)))
      dsimp only
      (with_reducible rename Fr _ _ _ _ => FR); (with_reducible rename News _ _ _ _ => NR)
      refine fin _ _ _ _ _ _ _ [] _ _ _ _ _ _ _ _ _ _ _ _ FR NR ?_ ?_ ?_ (by assumption) ⟨rfl, fun i v h => by simp at h⟩ (by assumption) (by assumption)
      all_goals omega
    | false =>
      (repeat' (first | (k_unfold; (try dsimp only)) | ((fail_if_success (with_reducible show wpAny _ _ (eval (PySem.Expr.ListComp _ _ _ _) _) _ _ _)); walk1) | (dsimp only;  (fail_if_success (with_reducible show wpAny _ _ (eval (PySem.Expr.ListComp _ _ _ _) _) _ _ _)); walk1)))
      refine evalComp (cl := []) rfl rfl (by decide) ?_
      (repeat' (first | (k_unfold; (try dsimp only)) | ((fail_if_success (with_reducible show wpAny _ _ (pyIter _) _ _ _)); walk1) | (dsimp only;  (fail_if_success (with_reducible show wpAny _ _ (pyIter _) _ _ _)); walk1)))
      (with_reducible rename Fr _ _ _ _ => FF); (with_reducible rename News _ _ _ _ => NF)
      obtain ⟨nws, hnws, NG⟩ := hold NF
      refine evalCompList (by decide) rfl rfl rfl FF NG (FF.keep _ _ hdlg) hdlL hdn (fun i ys nw => nw = nws ∧ StrsV ys (D.take i)) ⟨rfl, strsV_nil⟩ ?_ ?_
      · rintro i v ys m₁ news₁ own g2 C s₁ Qs st ⟨hh, tk, dr, rfl⟩ hi hv ⟨rfl, hys⟩ F₁ N₁ ho hy hn
        obtain ⟨p, u, hp, rfl⟩ := hP.2 i v hv
        have X2 := X'.keeps st
        have T2 := T'.keeps st
        clear FF NF NG
        have hi2 : i < D.length := by rw [← hPD]; exact (List.getElem?_eq_some_iff.mp hp).1
        have hnr := hN i p _ hp (List.getElem?_eq_getElem hi2)
        (repeat' (first | (k_unfold; (try dsimp only)) | walk1 | (dsimp only; walk1)))
        all_goals (try k_data)
        (with_reducible rename Fr _ _ _ _ => FR); (with_reducible rename News _ _ _ _ => NR)
        exact hy _ _ _ _ _ _ FR NR (fun q hq => .inl (List.mem_map_of_mem hq)) ⟨rfl, strsV_snoc hys (List.getElem?_eq_getElem hi2)⟩
      · rintro D' h' tk dr ys c news' hD' F' N' hn ⟨rfl, hys⟩
        subst hnws
        clear FF NF NG
        rw [hDl] at hys
        replace hn := allNe_of hn
        simp only [AllNe, and_true] at hn
        (repeat' (first | (k_unfold; (try dsimp only)) | walk1 | (dsimp only; walk1)))
        dsimp only
        (with_reducible rename Fr _ _ _ _ => FR); (with_reducible rename News _ _ _ _ => NR)
        refine fin _ _ _ _ _ _ _ _ _ _ _ _ _ _ _ _ _ _ _ _ FR NR ?_ ?_ ?_ (by assumption) hys (by assumption) (by assumption)
        all_goals omega
end
end Mine
end
section
open PySem PySem.W PySem.Calls PyProof.Rows
set_option maxRecDepth 100000
namespace Mine
section
variable {w : World} {dp un : Nat} {fr : Option (List Env)} {gd : Option (List Code)} {s : Shared} {loose : List Str} {mean : ExcName → Option Value} {mg mb : Str → Option Value} {Q E : Value → Shared → Prop} {h₀ : Heap} {L : Addr} {m : Str → Option Value} {news : List (Addr × Obj)}
theorem namesAt {l : List (Addr × Obj)} {x ig : Addr} {n : Nat} {f : Option Str} {tf : Tok} {mod : Str} {t : Tok} {M D : List Str} {seen : Str → Option Int}
    (hk : ∀ b o, h₀.get? b = some o → s.heap.get? b = some o) (hN : ∀ q ∈ l, s.heap.get? q.1 = some q.2 ∧ h₀.get? q.1 = none) (hl : RdL w l x ig M D n seen) (hnd : (l.map (·.1)).Nodup) (X : (hd.heap_39 w.params).In h₀) (T : Top hd.view_39 loose mean mg mb h₀) (hdp : dp < 860) (hu : un < 160)
    (hn : n < 1000) (hM1 : ∀ k ∈ M, k.length ≤ 100) (hD1 : ∀ k ∈ D, k.length ≤ 100) (hm1 : mod.length ≤ 100) (hf1 : ∀ g, f = some g → g.length ≤ 200)
    (h : ∀ u h' tk d l', (∀ b o, b ≠ ig → s.heap.get? b = some o → h'.get? b = some o) → RdL w l' x ig M D (n + 1) (put seen mod (says seen M D f mod)) → l'.map (·.1) = l.map (·.1) → (∀ q ∈ l', h'.get? q.1 = some q.2) → Q (.int (says seen M D f mod) u) { s with heap := h', toks := tk, drawn := d }) :
    wpAny (model PySem.Challenge.rw_il0011_01.row.prog w) (Ar dp un fr gd) (call (.ref 156) [.ref x, optV f tf, .str mod t]) Q E s := by
  obtain ⟨dx, ms, ds, oms, oig, dvs, dc, a1, a2, a3, b1, b2, b3, n0, rfl, hM, hS, hD, hig, hcl⟩ := hl
  simp only [List.map_cons, List.map_nil, List.nodup_cons, List.mem_cons, List.not_mem_nil, or_false, not_or, not_false_eq_true, List.nodup_nil, and_true] at hnd
  refine wpAny_call (names hk hN ⟨X, T⟩ hdp hu hM hS hn hM1 hD1 hm1 hf1 hig ⟨hD.1, hD.2⟩ hnd.1.2.2.2 hnd.2.1.2.2 hnd.2.2.1.2 hnd.2.2.2 fun u h' tk d o' hk' ho' hS' => ?_)
  have hcl' : o'.cls = .type "dict" := by obtain ⟨_, ⟨_, _, hx, _⟩, _⟩ := hS'; exact hx.1
  refine h u h' tk d [(x, instObj 159 dx), (dx, slots3 a1 a2 a3 b1 b2 b3 ms ds ig n0), (ms, oms), (ds, listObj dvs dc), (ig, o')] hk' ⟨dx, ms, ds, oms, o', dvs, dc, a1, a2, a3, b1, b2, b3, n0, rfl, hM, hS', hD, hig, hcl'⟩ rfl fun q hq => ?_
  simp only [List.mem_cons, List.not_mem_nil, or_false] at hq
  rcases hq with rfl | rfl | rfl | rfl | rfl
  · exact hk' _ _ hnd.1.2.2.2 (hN _ (.head _)).1
  · exact hk' _ _ hnd.2.1.2.2 (hN _ (.tail _ (.head _))).1
  · exact hk' _ _ hnd.2.2.1.2 (hN _ (.tail _ (.tail _ (.head _)))).1
  · exact hk' _ _ hnd.2.2.2 (hN _ (.tail _ (.tail _ (.tail _ (.head _))))).1
  · exact ho'
theorem mkReader {ml dl : Addr} {mvs dvs : List Value} {mc dc : Nat} {M P D : List Str} (F : Fr h₀ L s.heap m) (N : News h₀ L s.heap news) (X : (hd.heap_39 w.params).In h₀) (T : Top hd.view_39 loose mean mg mb h₀) (hdp : dp < 840) (hu : un < 140)
    (hml : s.heap.get? ml = some (listObj mvs mc)) (hdl : s.heap.get? dl = some (listObj dvs dc)) (hM : StrsV mvs M) (hP : StrsV dvs P) (hPD : P.length = D.length) (hN : ∀ (i : Nat) (p r : Str), P[i]? = some p → D[i]? = some r → NormsTo w loose mean mg mb p r) (hmn : mvs.length ≤ 1000) (hdn : dvs.length ≤ 1000)
    (h : ∀ x ig l h' tk d, Fr h₀ L h' m → News h₀ L h' (l ++ news) → RdL w l x ig M D 1 (put (fun _ => none) (Str.ofString "<string>") 1) → (l.map (·.1)).Nodup → (∀ q ∈ l, s.heap.get? q.1 = none) → Q (.ref x) { s with heap := h', toks := tk, drawn := d }) :
    wpAny (model PySem.Challenge.rw_il0011_01.row.prog w) (Ar dp un fr gd) (call (.ref 159) [.ref ml, .ref dl]) Q E s := by
  obtain ⟨hh, g, dr, t, os⟩ := s
  have XX := X.keeps F.keep
  have TT := T.keeps F.keep
  dsimp only at *
  refine wpAny_call ?_
  revert XX; k_fill; intro XX
  have hfr : ∀ b, hh.objs.size ≤ b → hh.get? b = none := fun b hb => by
    cases e : hh.get? b with
    | none => rfl
    | some o => exact absurd (Heap.lt_size e) (Nat.not_lt.mpr hb)
  refine' make_core (C := 159) (init := .ref 149) (makes_of (K := hd.heap_39 w.params) XX ?k1) (looks_findIn XX ?k2) (fun self => bind_fn XX self ?k3) (.inl rfl) ?_
  case k1 => k_is
  case k2 => k_is
  case k3 => k_is
  have hw : (Code.builtin "type.__call__" ⟨[.ref 159, .ref ml, .ref dl], []⟩).weight = 1 := rfl
  show codeAny _ (Ar (dp + (Code.builtin "type.__call__" ⟨[.ref 159, .ref ml, .ref dl], []⟩).weight) (un + 1) (pushEnvs [] fr) (pushGuards [] gd)) _ _ _
  rw [hw]
  have hkk : ∀ b o, hh.get? b = some o → ((hh.push emptyDict).push (instObj 159 hh.objs.size)).get? b = some o := fun b o e => Heap.get?_push_of_some _ (Heap.get?_push_of_some _ e)
  refine init (h₀ := hh) (dx := hh.objs.size) hkk (fun q hq => ?_) ⟨XX, TT⟩ (by omega) (by omega) (Nat.lt_succ_self _) hPD hN hM hP hmn hdn hml hdl ?_
  · rcases List.mem_cons.mp hq with rfl | hq
    · refine ⟨?_, hfr _ (Nat.le_succ _)⟩
      have := Heap.get?_push_size (hh.push emptyDict) (o := instObj 159 hh.objs.size) rfl
      rwa [Heap.size_push] at this
    · rw [List.mem_singleton.mp hq]
      exact ⟨Heap.get?_push_of_some _ (Heap.get?_push_size _ rfl), hfr _ (Nat.le_refl _)⟩
  · intro ig l h' tk d hk' hrd hl hnd hl2
    refine ⟨rfl, h _ ig l h' tk d (F.after hk') (fun q hq => ?_) hrd hnd fun q hq => (hl q hq).2⟩
    rcases List.mem_append.mp hq with hq | hq
    · refine ⟨(hl q hq).1, fun e => ?_, ?_⟩
      · obtain ⟨oL, _, _, hL, _⟩ := F.ns
        have := (hl q hq).2
        rw [e, hL] at this; cases this
      · cases e : h₀.get? q.1 with
        | none => rfl
        | some o => have := (hl q hq).2; rw [F.keep _ _ e] at this; cases this
    · exact ⟨hk' _ _ (N q hq).1, (N q hq).2⟩
end
end Mine
end
section
open PySem PySem.W PySem.Calls PyProof.Rows
set_option maxRecDepth 100000
namespace Mine
def tA : Str := Str.ofString "a"
def tAB : Str := Str.ofString "ab"
def tB : Str := Str.ofString "b"
def toks3 : List Str := [tA, tAB, tB]
-- all the names that can be left out, and all that can be asked
def names39 : List (List Str) := (toks3.map fun x => [x]) ++ (toks3.flatMap fun x => toks3.map fun y => [x, y]) ++ (toks3.flatMap fun x => toks3.flatMap fun y => toks3.map fun z => [x, y, z])
def names40 : List (List Str) := names39 ++ [[tA, tAB, tB, tA]]
def slashes (x : Str) (bs : List Str) : Str := bs.foldl (fun a b => a ++ (Str.ofString "/" ++ b)) x
def okJoin (x : Str) (bs : List Str) : Bool :=
  decide (bs.length ≤ 10) && ((List.range (bs.length + 1)).all fun i => decide (0 < (slashes x (bs.take i)).length) && decide ((slashes x (bs.take i)).length ≤ 200) && !(Txt.endswith (slashes x (bs.take i)) (Str.ofString "/"))) && bs.all fun b => decide (b.length ≤ 20) && !(Txt.startswith b (Str.ofString "/"))
def crooked : List Str := [Str.ofString ".", Str.ofString "x", Str.ofString ".."]
def initpy : List Str := [Str.ofString "__init__.py"]
def dot (p : List Str) : Str := Txt.join (Str.ofString ".") p
def sl (p : List Str) : Str := Txt.join (Str.ofString "/") p
def crook (p : List Str) : Str := slashes (p.headD tA) (p.tail ++ crooked)
def inpath (p : List Str) : Str := slashes (p.headD tA) (p.tail ++ initpy)
def okParts (p : List Str) : Bool := !p.isEmpty && decide (p.length ≤ 4) && p.all fun b => decide (0 < b.length) && decide (b.length ≤ 10) && !(b == Str.ofString ".") && !(b == Str.ofString "..")
def okNorm (p : List Str) : Bool :=
  okParts p && decide ((crook p).length ≤ 100) && decide (0 < (crook p).length) && (Txt.slice (crook p) none (some 1) == Str.ofString "/") == false && (Txt.split (crook p) (Str.ofString "/") == p ++ crooked) && decide (0 < (sl p).length) && decide ((sl p).length ≤ 100) && (Str.ofString "" ++ sl p == sl p)
def okAsk (p : List Str) : Bool := okParts p && okJoin (p.headD tA) (p.tail ++ initpy) && decide ((dot p).length ≤ 100) && decide ((sl p).length ≤ 100) && decide ((inpath p).length ≤ 200)
theorem all39 : names39.all (fun p => okNorm p && okJoin (p.headD tA) (p.tail ++ crooked) && okAsk p && decide (p.length ≤ 3)) = true := by decide +kernel
theorem all40 : names40.all okAsk = true := by decide +kernel
-- whether the first parts are all the parts of p
def hit (p q : List Str) : Bool := (dot q == dot p) || Txt.startswith (dot q) (dot p ++ Str.ofString ".")
def hitF (p q : List Str) : Bool := Txt.startswith (inpath q) (sl p ++ Str.ofString "/")
theorem hits : names39.all (fun p => names40.all fun q => (hit p q == p.isPrefixOf q) && (hitF p q == p.isPrefixOf q)) = true := by decide +kernel
theorem dots : names40.all (fun p => (!(dot p == Str.ofString "<string>")) && names40.all fun q => (dot p == dot q) == (p == q)) = true := by decide +kernel
end Mine
end
section
open PySem PySem.W PySem.Calls PyProof.Rows
set_option maxRecDepth 100000
namespace Mine
theorem and4 {a b : Bool} (h : (a && b) = true) : a = true ∧ b = true := Bool.and_eq_true_iff.mp h
theorem notB {b : Bool} (h : (!b) = true) : b = false := by cases b <;> simp_all
theorem dec {c : Prop} [Decidable c] (h : decide c = true) : c := of_decide_eq_true h
theorem okParts_len {p : List Str} (h : okParts p = true) : p.length ≤ 4 := by
  unfold okParts at h
  obtain ⟨h1, _⟩ := and4 h
  exact dec (and4 h1).2
theorem strsV_uncons {ws : List Value} {p : List Str} (h : StrsV ws p) (hok : okParts p = true) : ∃ t ws', ws = .str (p.headD tA) t :: ws' ∧ StrsV ws' p.tail := by
  match p, ws, h with
  | [], _, _ => simp [okParts] at hok
  | b :: p, [], h => have := h.1; simp at this
  | b :: p, v :: ws, h =>
    obtain ⟨k, t, hk, rfl⟩ := h.2 0 v rfl
    simp at hk
    subst hk
    exact ⟨t, ws, rfl, by have := h.1; simpa using this, fun i v hi => h.2 (i + 1) v hi⟩
theorem strsV_app {vs vs' : List Value} {ms ms' : List Str} (h : StrsV vs ms) (h' : StrsV vs' ms') : StrsV (vs ++ vs') (ms ++ ms') := by
  refine ⟨by rw [List.length_append, List.length_append, h.1, h'.1], fun i v hi => ?_⟩
  have hl := h.1
  by_cases hlt : i < vs.length
  · rw [List.getElem?_append_left hlt] at hi
    rw [List.getElem?_append_left (by rw [hl]; exact hlt)]
    exact h.2 i v hi
  · rw [List.getElem?_append_right (Nat.le_of_not_lt hlt)] at hi
    rw [List.getElem?_append_right (by rw [hl]; exact Nat.le_of_not_lt hlt), hl]
    exact h'.2 _ v hi
theorem strsV_one {x : Str} {t : Tok} : StrsV [.str x t] [x] := ⟨rfl, fun i v h => by
  match i, h with
  | 0, h => simp at h; exact ⟨x, t, rfl, h.symm⟩
  | i + 1, h => simp at h⟩
theorem strsV_three {x y z : Str} {t u v : Tok} : StrsV [.str x t, .str y u, .str z v] [x, y, z] := strsV_app (strsV_app strsV_one strsV_one) strsV_one
theorem strsV_crook {ws : List Value} {p : List Str} {t u v : Tok} (h : StrsV ws p) : StrsV (ws ++ [.str (Str.ofString ".") t, .str (Str.ofString "x") u, .str (Str.ofString "..") v]) (p ++ crooked) := strsV_app h strsV_three
theorem strsV_init {ws : List Value} {p : List Str} {t : Tok} (h : StrsV ws p) : StrsV (ws ++ [.str (Str.ofString "__init__.py") t]) (p ++ initpy) := strsV_app h strsV_one
section
variable {w : World} {dp un : Nat} {fr : Option (List Env)} {gd : Option (List Code)} {s : Shared} {loose : List Str} {mean : ExcName → Option Value} {mg mb : Str → Option Value} {R : Result → Shared → Prop} {Q E : Value → Shared → Prop} {h₀ : Heap} {L : Addr} {m : Str → Option Value} {news : List (Addr × Obj)}
theorem part_ok {p : List Str} (h : okParts p = true) : ∀ b ∈ p, 0 < b.length ∧ b.length ≤ 10 ∧ (b == Str.ofString ".") = false ∧ (b == Str.ofString "..") = false := fun b hb => by
  have h2 := (and4 h).2
  have := List.all_eq_true.mp h2 b hb
  obtain ⟨h3, h4⟩ := and4 this
  obtain ⟨h5, h6⟩ := and4 h3
  obtain ⟨h7, h8⟩ := and4 h5
  exact ⟨dec h7, dec h8, notB h6, notB h4⟩
theorem normsTo_of {p : List Str} (h : okNorm p = true) (hl : p.length ≤ 3) : NormsTo w loose mean mg mb (crook p) (sl p) := by
  unfold okNorm at h
  obtain ⟨h, h8⟩ := and4 h
  obtain ⟨h, h7⟩ := and4 h
  obtain ⟨h, h6⟩ := and4 h
  obtain ⟨h, h5⟩ := and4 h
  obtain ⟨h, h4⟩ := and4 h
  obtain ⟨h, h3⟩ := and4 h
  obtain ⟨h1, h2⟩ := and4 h
  have hp := part_ok h1
  have h5 := eq_of_beq h5
  have h8 := eq_of_beq h8
  have h4 : (Txt.slice (crook p) none (some 1) == Str.ofString "/") = false := eq_of_beq h4
  intro dp un fr gd s R t G hdp hu hR
  have hj : Txt.join (Str.ofString "/") p = sl p := rfl
  generalize crook p = x at *
  generalize sl p = r at *
  match p, hl, hp, hj, h5 with
  | [], _, _, _, _ => simp [okParts] at h1
  | [p1], _, hp, hj, h5 =>
    obtain ⟨a1, a2, a3, a4⟩ := hp p1 (.head _)
    exact normp1 x p1 r t G hdp hu (dec h2) (dec h3) h4 a1 a2 a3 a4 h5 hj (dec h6) (dec h7) h8 hR
  | [p1, p2], _, hp, hj, h5 =>
    obtain ⟨a1, a2, a3, a4⟩ := hp p1 (.head _)
    obtain ⟨b1, b2, b3, b4⟩ := hp p2 (.tail _ (.head _))
    exact normp2 x p1 p2 r t G hdp hu (dec h2) (dec h3) h4 a1 a2 a3 a4 b1 b2 b3 b4 h5 hj (dec h6) (dec h7) h8 hR
  | [p1, p2, p3], _, hp, hj, h5 =>
    obtain ⟨a1, a2, a3, a4⟩ := hp p1 (.head _)
    obtain ⟨b1, b2, b3, b4⟩ := hp p2 (.tail _ (.head _))
    obtain ⟨c1, c2, c3, c4⟩ := hp p3 (.tail _ (.tail _ (.head _)))
    exact normp3 x p1 p2 p3 r t G hdp hu (dec h2) (dec h3) h4 a1 a2 a3 a4 b1 b2 b3 b4 c1 c2 c3 c4 h5 hj (dec h6) (dec h7) h8 hR
theorem slashes_succ {x : Str} {bs : List Str} {i : Nat} (hi : i < bs.length) : slashes x (bs.take i) ++ (Str.ofString "/" ++ bs.getD i tA) = slashes x (bs.take (i + 1)) := by
  unfold slashes
  rw [List.take_add_one, List.getElem?_eq_getElem hi, Option.toList_some, List.foldl_append, List.foldl_cons, List.foldl_nil, List.getD_eq_getElem?_getD, List.getElem?_eq_getElem hi, Option.getD_some]
theorem joinAt {x : Str} {t : Tok} {vs : List Value} {bs : List Str} (F : Fr h₀ L s.heap m) (N : News h₀ L s.heap news) (X : (hd.heap_39 w.params).In h₀) (T : Top hd.view_39 loose mean mg mb h₀) (hdp : dp < 870) (hu : un < 170) (hv : StrsV vs bs) (hok : okJoin x bs = true)
    (h : ∀ t' h' tk, Fr h₀ L h' m → News h₀ L h' news → Q (.str (slashes x bs) t') { s with heap := h', toks := tk }) : wpAny (model PySem.Challenge.rw_il0011_01.row.prog w) (Ar dp un fr gd) (call (.ref 184) (.str x t :: vs)) Q E s := by
  unfold okJoin at hok
  obtain ⟨hok, h3⟩ := and4 hok
  obtain ⟨h1, h2⟩ := and4 hok
  have hl : vs.length = bs.length := hv.1.symm
  refine wpAny_call (join x t vs bs.length (fun i => slashes x (bs.take i)) (fun i => bs.getD i tA) hl (fun i v hi => ?_) (by have := dec h1; omega) rfl (fun i hi => slashes_succ hi) (fun i hi => ?_) (fun i hi => ?_) ⟨X.keeps F.keep, T.keeps F.keep⟩ hdp hu fun t' h' tk k => ?_)
  · obtain ⟨k, u, hk, rfl⟩ := hv.2 i v hi
    exact ⟨u, by rw [List.getD_eq_getElem?_getD, hk]; rfl⟩
  · have := List.all_eq_true.mp h2 i (List.mem_range.mpr (by omega))
    obtain ⟨a, b⟩ := and4 this
    obtain ⟨a, c⟩ := and4 a
    exact ⟨dec a, dec c, notB b⟩
  · have hm : bs.getD i tA ∈ bs := by rw [List.getD_eq_getElem?_getD, List.getElem?_eq_getElem hi]; exact List.getElem_mem hi
    obtain ⟨a, b⟩ := and4 (List.all_eq_true.mp h3 _ hm)
    exact ⟨dec a, notB b⟩
  · rw [List.take_length]
    exact h t' h' tk (F.after k) (N.grown k)
end
end Mine
end
section
open PySem PySem.W PySem.Calls PyProof.Rows
set_option maxRecDepth 100000
namespace Mine
def evenIdx (n : Nat) : List Nat := (List.range ((n + 1) / 2)).map fun k => 2 * k
def oddIdx (n : Nat) : List Nat := (List.range (n / 2)).map fun k => 1 + 2 * k
theorem pick_even {vs : List Value} : slicePick vs.toArray none none (some 2) = ((evenIdx vs.length).filterMap (vs[·]?)).toArray := by
  have hb : sliceBounds none none (some 2) vs.toArray.size = (0, (vs.length : Int), 2) := by unfold sliceBounds; simp
  unfold slicePick
  rw [hb]
  unfold sliceRange
  have hc : (if (2 : Int) > 0 then (if (0 : Int) < (vs.length : Int) then ((vs.length : Int) - 0 + 2 - 1) / 2 else 0) else (if (0 : Int) > (vs.length : Int) then (0 - (vs.length : Int) - 2 - 1) / (-2) else 0)).toNat = (vs.length + 1) / 2 := by
    rw [if_pos (by decide)]
    split <;> omega
  show (((List.range _).map _).filterMap _).toArray = _
  dsimp only at hc ⊢
  rw [hc]
  unfold evenIdx
  congr 1
  have hf : (fun k : Nat => ((0 : Int) + 2 * (k : Int)).toNat) = fun k => 2 * k := by funext k; omega
  rw [hf]
  congr 1
  funext i
  simp
theorem pick_odd {vs : List Value} : slicePick vs.toArray (some 1) none (some 2) = ((oddIdx vs.length).filterMap (vs[·]?)).toArray := by
  have hb : sliceBounds (some 1) none (some 2) vs.toArray.size = (max 0 (min 1 (vs.length : Int)), (vs.length : Int), 2) := by unfold sliceBounds; simp
  unfold slicePick
  rw [hb]
  unfold sliceRange
  have hc : (if (2 : Int) > 0 then (if max 0 (min 1 (vs.length : Int)) < (vs.length : Int) then ((vs.length : Int) - max 0 (min 1 (vs.length : Int)) + 2 - 1) / 2 else 0) else (if max 0 (min 1 (vs.length : Int)) > (vs.length : Int) then (max 0 (min 1 (vs.length : Int)) - (vs.length : Int) - 2 - 1) / (-2) else 0)).toNat = vs.length / 2 := by
    rw [if_pos (by decide)]
    split <;> omega
  show (((List.range _).map _).filterMap _).toArray = _
  dsimp only at hc ⊢
  rw [hc]
  unfold oddIdx
  congr 1
  have hf : (List.range (vs.length / 2)).map (fun k : Nat => (max 0 (min 1 (vs.length : Int)) + 2 * (k : Int)).toNat) = (List.range (vs.length / 2)).map fun k => 1 + 2 * k := by
    refine List.map_congr_left fun k hk => ?_
    have := List.mem_range.mp hk
    omega
  rw [hf]
  congr 1
  funext i
  simp
theorem strsV_pick {vs : List Value} {ms : List Str} (h : StrsV vs ms) : ∀ (idx : List Nat), StrsV (idx.filterMap (vs[·]?)) (idx.filterMap (ms[·]?))
  | [] => ⟨rfl, fun i v h => by simp at h⟩
  | i :: idx => by
    have ih := strsV_pick h idx
    cases hv : vs[i]? with
    | none =>
      have hm : ms[i]? = none := by
        have := List.getElem?_eq_none_iff.mp hv
        exact List.getElem?_eq_none_iff.mpr (by rw [h.1]; exact this)
      rw [List.filterMap_cons_none hv, List.filterMap_cons_none hm]
      exact ih
    | some v =>
      obtain ⟨k, t, hk, rfl⟩ := h.2 i v hv
      rw [List.filterMap_cons_some hv, List.filterMap_cons_some hk]
      exact strsV_app (vs := [.str k t]) (ms := [k]) strsV_one ih
theorem pick_map {f : List Str → Str} (left : List (List Str)) (idx : List Nat) : idx.filterMap ((left.map f)[·]?) = (idx.filterMap (left[·]?)).map f := by
  rw [List.map_filterMap]
  congr 1
  funext i
  rw [List.getElem?_map]
def pickE (left : List (List Str)) : List (List Str) := (evenIdx left.length).filterMap (left[·]?)
def pickO (left : List (List Str)) : List (List Str) := (oddIdx left.length).filterMap (left[·]?)
theorem mem_picks {left : List (List Str)} {p : List Str} : (p ∈ pickE left ∨ p ∈ pickO left) ↔ p ∈ left := by
  unfold pickE pickO evenIdx oddIdx
  simp only [List.mem_filterMap, List.mem_map, List.mem_range]
  constructor
  · rintro (⟨i, _, h⟩ | ⟨i, _, h⟩) <;> exact List.mem_of_getElem? h
  · intro h
    obtain ⟨i, hi⟩ := List.getElem?_of_mem h
    have hl := (List.getElem?_eq_some_iff.mp hi).1
    rcases Nat.mod_two_eq_zero_or_one i with h2 | h2
    · exact .inl ⟨i, ⟨i / 2, by omega, by omega⟩, hi⟩
    · exact .inr ⟨i, ⟨i / 2, by omega, by omega⟩, hi⟩
theorem pick_len {left : List (List Str)} : (pickE left).length ≤ left.length ∧ (pickO left).length ≤ left.length := by
  unfold pickE pickO evenIdx oddIdx
  constructor
  · refine Nat.le_trans (List.length_filterMap_le _ _) ?_
    rw [List.length_map, List.length_range]
    omega
  · refine Nat.le_trans (List.length_filterMap_le _ _) ?_
    rw [List.length_map, List.length_range]
    omega
end Mine
end
section
open PySem PySem.W PySem.Calls PyProof.Rows
set_option maxRecDepth 100000
namespace Mine
def due (left : List (List Str)) (p : List Str) : Bool := left.any fun q => q.isPrefixOf p
def bit (b : Bool) : Int := if b = true then 1 else 0
def btx (b : Bool) : Str := if b = true then Str.ofString "1" else Str.ofString "0"
theorem hit_eq {p q : List Str} (hp : p ∈ names39) (hq : q ∈ names40) : hit p q = p.isPrefixOf q ∧ hitF p q = p.isPrefixOf q := by
  have h1 := List.all_eq_true.mp hits p hp
  obtain ⟨a, b⟩ := and4 (List.all_eq_true.mp h1 q hq)
  exact ⟨eq_of_beq a, eq_of_beq b⟩
theorem dot_inj {p q : List Str} (hp : p ∈ names40) (hq : q ∈ names40) (h : dot p = dot q) : p = q := by
  have h1 := List.all_eq_true.mp dots p hp
  have h2 := List.all_eq_true.mp (and4 h1).2 q hq
  rw [h, beq_self_eq_true] at h2
  exact eq_of_beq (eq_of_beq h2).symm
theorem dot_str {p : List Str} (hp : p ∈ names40) : dot p ≠ Str.ofString "<string>" := by
  have h1 := List.all_eq_true.mp dots p hp
  have h2 := notB (and4 h1).1
  intro e
  rw [e, beq_self_eq_true] at h2; cases h2
theorem ask_ok {p : List Str} (hp : p ∈ names40) : okAsk p = true := List.all_eq_true.mp all40 p hp
theorem any_congr {α : Type} {l : List α} {f g : α → Bool} (h : ∀ x ∈ l, f x = g x) : l.any f = l.any g := by
  induction l with
  | nil => rfl
  | cons x l ih => rw [List.any_cons, List.any_cons, h x (.head _), ih fun y hy => h y (.tail _ hy)]
theorem ans_gen {A B : List (List Str)} {q : List Str} {f : Str} (hA : ∀ p ∈ A, p ∈ names39) (hB : ∀ p ∈ B, p ∈ names39) (hq : q ∈ names40) (hf : f = inpath q ∨ B = []) :
    answer (A.map dot) (B.map sl) (some f) (dot q) = bit (due A q || due B q) := by
  have e1 : due A q = A.any (fun p => hit p q) := any_congr fun p hp => (hit_eq (hA p hp) hq).1.symm
  have e2 : due B q = (B.map sl).any (fun d => Txt.startswith f (d ++ Str.ofString "/")) := by
    rw [List.any_map]
    rcases hf with rfl | rfl
    · exact any_congr fun p hp => (hit_eq (hB p hp) hq).2.symm
    · rfl
  have e3 : A.any (fun p => hit p q) = (decide (dot q ∈ A.map dot) || (A.map dot).any (fun k => Txt.startswith (dot q) (k ++ Str.ofString "."))) := by
    rw [Bool.eq_iff_iff]
    simp only [List.any_eq_true, Bool.or_eq_true, decide_eq_true_eq, List.mem_map]
    constructor
    · rintro ⟨p, hp, h⟩
      unfold hit at h
      rcases Bool.or_eq_true_iff.mp h with h | h
      · exact .inl ⟨p, hp, (eq_of_beq h).symm⟩
      · exact .inr ⟨_, ⟨p, hp, rfl⟩, h⟩
    · rintro (⟨p, hp, h⟩ | ⟨_, ⟨p, hp, rfl⟩, h⟩)
      · exact ⟨p, hp, by unfold hit; rw [h, beq_self_eq_true, Bool.true_or]⟩
      · exact ⟨p, hp, by unfold hit; rw [h, Bool.or_true]⟩
  unfold answer
  rw [e1, e3]
  by_cases h1 : dot q ∈ A.map dot
  · rw [if_pos h1, decide_eq_true h1]; rfl
  · rw [if_neg h1, decide_eq_false h1, Bool.false_or]
    by_cases h2 : (A.map dot).any (fun k => Txt.startswith (dot q) (k ++ Str.ofString ".")) = true
    · rw [if_pos h2, h2]; rfl
    · rw [if_neg h2, Bool.eq_false_iff.mpr h2, Bool.false_or, e2]
      rfl
theorem due_picks {left : List (List Str)} {q : List Str} : (due (pickE left) q || due (pickO left) q) = due left q := by
  rw [Bool.eq_iff_iff]
  unfold due
  simp only [Bool.or_eq_true, List.any_eq_true]
  constructor
  · rintro (⟨p, hp, h⟩ | ⟨p, hp, h⟩)
    · exact ⟨p, mem_picks.mp (.inl hp), h⟩
    · exact ⟨p, mem_picks.mp (.inr hp), h⟩
  · rintro ⟨p, hp, h⟩
    rcases mem_picks.mpr hp with hp | hp
    · exact .inl ⟨p, hp, h⟩
    · exact .inr ⟨p, hp, h⟩
-- what a reader remembers
def Known (left dn : List (List Str)) (sn : Str → Option Int) : Prop := (∀ p ∈ names40, sn (dot p) = none ∨ sn (dot p) = some (bit (due left p))) ∧ ∀ p ∈ dn, sn (dot p) = some (bit (due left p))
theorem known_start {left : List (List Str)} : Known left [] (put (fun _ => none) (Str.ofString "<string>") 1) := ⟨fun p hp => .inl (by unfold put; rw [if_neg (dot_str hp)]), fun p hp => nomatch hp⟩
theorem known_put {left dn : List (List Str)} {sn : Str → Option Int} {p : List Str} (K : Known left dn sn) (hd : ∀ q ∈ dn, q ∈ names40) (hp : p ∈ names40) : Known left (dn ++ [p]) (put sn (dot p) (bit (due left p))) := by
  refine ⟨fun q hq => ?_, fun q hq => ?_⟩
  · unfold put
    by_cases h : dot q = dot p
    · rw [if_pos h, dot_inj hq hp h]; exact .inr rfl
    · rw [if_neg h]; exact K.1 q hq
  · unfold put
    by_cases h : dot q = dot p
    · have hq' : q ∈ names40 := by
        rcases List.mem_append.mp hq with hq | hq
        · exact hd q hq
        · rw [List.mem_singleton.mp hq]; exact hp
      rw [if_pos h, dot_inj hq' hp h]
    · rw [if_neg h]
      rcases List.mem_append.mp hq with hq | hq
      · exact K.2 q hq
      · exact absurd (by rw [List.mem_singleton.mp hq]) h
theorem says_gen {left A B : List (List Str)} {q : List Str} {f : Str} {dn : List (List Str)} {sn : Str → Option Int} (K : Known left dn sn) (hA : ∀ p ∈ A, p ∈ names39) (hB : ∀ p ∈ B, p ∈ names39) (hq : q ∈ names40) (hf : f = inpath q ∨ B = []) (hd : (due A q || due B q) = due left q) :
    says sn (A.map dot) (B.map sl) (some f) (dot q) = bit (due left q) := by
  unfold says
  rcases K.1 q hq with h | h
  · rw [h]; dsimp only; rw [ans_gen hA hB hq hf, hd]
  · rw [h]
theorem says_known {left : List (List Str)} {q : List Str} {f : Option Str} {dn : List (List Str)} {sn : Str → Option Int} {M D : List Str} (K : Known left dn sn) (hq : q ∈ dn) : says sn M D f (dot q) = bit (due left q) := by
  unfold says; rw [K.2 q hq]
def Apart (T : List (Addr × Obj)) (cs : List Addr) : Prop := ∀ p ∈ T, ∀ c ∈ cs, p.1 ≠ c
-- the rows told so far: each a list of three texts
def Rows (left ps : List (List Str)) (ts : List Value) (U : List (Addr × Obj)) : Prop :=
  ts.length = ps.length ∧ ∀ (j : Nat) (p : List Str), ps[j]? = some p → ∃ R c t1 t2 t3, ts[j]? = some (Value.ref R) ∧ (R, listObj [.str (btx (due left p)) t1, .str (btx (due left p)) t2, .str (btx (due left p)) t3] c) ∈ U
theorem allLt_ne : ∀ {l : List (Addr × Obj)} {d : Addr}, AllLt d l → ∀ p ∈ l, p.1 ≠ d
  | [], _, _, p, hp => nomatch hp
  | q :: l, d, h, p, hp => by
    rcases List.mem_cons.mp hp with rfl | hp
    · exact Nat.ne_of_lt h.1
    · exact allLt_ne h.2 p hp
theorem nodup_app {α : Type} {a b : List α} (ha : a.Nodup) (hb : b.Nodup) (h : ∀ x ∈ a, ∀ y ∈ b, x ≠ y) : (a ++ b).Nodup := List.nodup_append.mpr ⟨ha, hb, h⟩
theorem keys_app {a b : List (Addr × Obj)} (ha : (a.map (·.1)).Nodup) (hb : (b.map (·.1)).Nodup) (h : ∀ p ∈ a, ∀ q ∈ b, p.1 ≠ q.1) : ((a ++ b).map (·.1)).Nodup := by
  rw [List.map_append]
  refine nodup_app ha hb fun x hx y hy => ?_
  obtain ⟨p, hp, rfl⟩ := List.mem_map.mp hx
  obtain ⟨q, hq, rfl⟩ := List.mem_map.mp hy
  exact h p hp q hq
theorem nodup3 {a b c : List (Addr × Obj)} (ha : (a.map (·.1)).Nodup) (hb : (b.map (·.1)).Nodup) (hc : (c.map (·.1)).Nodup) (h1 : ∀ p ∈ b, ∀ q ∈ a, p.1 ≠ q.1) (h2 : ∀ p ∈ c, ∀ q ∈ a, p.1 ≠ q.1) (h3 : ∀ p ∈ c, ∀ q ∈ b, p.1 ≠ q.1) : ((a ++ (b ++ c)).map (·.1)).Nodup :=
  keys_app ha (keys_app hb hc fun p hp q hq => (h3 q hq p hp).symm) fun p hp q hq => by
    rcases List.mem_append.mp hq with hq | hq
    · exact (h1 q hq p hp).symm
    · exact (h2 q hq p hp).symm
theorem apart_own {T own : List (Addr × Obj)} {c1 c2 c3 c4 c5 c6 c7 c8 : Addr} {a1 a2 a3 a4 a5 a6 a7 a8 : Obj} (h : Apart T [c1, c2, c3, c4, c5, c6, c7, c8])
    (ho : ∀ p ∈ own, ∀ q ∈ (c1, a1) :: (c2, a2) :: (c3, a3) :: (c4, a4) :: (c5, a5) :: (c6, a6) :: (c7, a7) :: (c8, a8) :: T, p.1 ≠ q.1) : Apart (T ++ own) [c1, c2, c3, c4, c5, c6, c7, c8] := by
  intro p hp c hc
  rcases List.mem_append.mp hp with hp | hp
  · exact h p hp c hc
  · simp only [List.mem_cons, List.not_mem_nil, or_false] at hc
    rcases hc with rfl | rfl | rfl | rfl | rfl | rfl | rfl | rfl
    · exact ho p hp _ (.head _)
    · exact ho p hp _ (.tail _ (.head _))
    · exact ho p hp _ (.tail _ (.tail _ (.head _)))
    · exact ho p hp _ (.tail _ (.tail _ (.tail _ (.head _))))
    · exact ho p hp _ (.tail _ (.tail _ (.tail _ (.tail _ (.head _)))))
    · exact ho p hp _ (.tail _ (.tail _ (.tail _ (.tail _ (.tail _ (.head _))))))
    · exact ho p hp _ (.tail _ (.tail _ (.tail _ (.tail _ (.tail _ (.tail _ (.head _)))))))
    · exact ho p hp _ (.tail _ (.tail _ (.tail _ (.tail _ (.tail _ (.tail _ (.tail _ (.head _))))))))
theorem okAsk_parts {p : List Str} (h : okAsk p = true) : okParts p = true ∧ okJoin (p.headD tA) (p.tail ++ initpy) = true ∧ (dot p).length ≤ 100 ∧ (sl p).length ≤ 100 ∧ (inpath p).length ≤ 200 := by
  unfold okAsk at h
  obtain ⟨h, h5⟩ := and4 h
  obtain ⟨h, h4⟩ := and4 h
  obtain ⟨h, h3⟩ := and4 h
  obtain ⟨h1, h2⟩ := and4 h
  exact ⟨h1, h2, dec h3, dec h4, dec h5⟩
end Mine
end
section
open PySem PySem.W PySem.Calls PyProof.Rows
set_option maxRecDepth 100000
namespace Mine
section
variable {w : World} {dp un : Nat} {fr : Option (List Env)} {gd : Option (List Code)} {s : Shared} {loose : List Str} {mean : ExcName → Option Value} {mg mb : Str → Option Value} {R : Result → Shared → Prop} {Q E : Value → Shared → Prop} {h₀ g : Heap} {L C : Addr} {m : Str → Option Value} {news : List (Addr × Obj)}
theorem methRd {pl : Sem Bool} {Q : Value × List Value → Shared → Prop} {l : List (Addr × Obj)} {x ig : Addr} {M D : List Str} {n : Nat} {sn : Str → Option Int} (hl : RdL w l x ig M D n sn) (hN : ∀ q ∈ l, s.heap.get? q.1 = some q.2) (F : Fr g C s.heap m) (X : (hd.heap_39 w.params).In g)
    (h : Q (.ref 156, [.ref x]) s) : wpAny (model PySem.Challenge.rw_il0011_01.row.prog w) (Ar dp un fr gd) (getMethod (.ref x) (Str.ofString "names") pl) Q E s := by
  obtain ⟨dx, ms, ds, oms, oig, dvs, dc, a1, a2, a3, b1, b2, b3, n0, rfl, hM, hS, hD, hig, hcl⟩ := hl
  revert X; k_fill; intro X
  refine' method_inst (K := hd.heap_39 w.params) (C := 159) F X ⟨hN _ (.head _), rfl, rfl, hN _ (.tail _ (.head _))⟩ ?k1 ?k2 ?k3 ?k4 h
  case k1 => k_is
  case k2 => k_is
  case k3 => k_is
  case k4 => k_get
theorem askL {pre l post : List (Addr × Obj)} {x ig : Addr} {M D : List Str} {n : Nat} {sn : Str → Option Int} {f : Option Str} {tf : Tok} {mod : Str} {t : Tok}
    (F : Fr g C s.heap m) (N : News g C s.heap (pre ++ (l ++ post))) (X : (hd.heap_39 w.params).In g) (T : Top hd.view_39 loose mean mg mb g) (hdp : dp < 860) (hu : un < 160) (hl : RdL w l x ig M D n sn) (hnd : (l.map (·.1)).Nodup) (hap : ∀ p ∈ pre ++ post, ∀ q ∈ l, p.1 ≠ q.1)
    (hn : n < 1000) (hM1 : ∀ k ∈ M, k.length ≤ 100) (hD1 : ∀ k ∈ D, k.length ≤ 100) (hm1 : mod.length ≤ 100) (hf1 : ∀ g, f = some g → g.length ≤ 200)
    (h : ∀ u h' tk d l', Fr g C h' m → News g C h' (pre ++ (l' ++ post)) → RdL w l' x ig M D (n + 1) (put sn mod (says sn M D f mod)) → l'.map (·.1) = l.map (·.1) → Q (.int (says sn M D f mod) u) { s with heap := h', toks := tk, drawn := d }) :
    wpAny (model PySem.Challenge.rw_il0011_01.row.prog w) (Ar dp un fr gd) (call (.ref 156) [.ref x, optV f tf, .str mod t]) Q E s := by
  have hig : ∃ o, (ig, o) ∈ l := by
    obtain ⟨dx, ms, ds, oms, oig, dvs, dc, a1, a2, a3, b1, b2, b3, n0, rfl, _⟩ := hl
    exact ⟨oig, .tail _ (.tail _ (.tail _ (.tail _ (.head _))))⟩
  have hNl : ∀ q ∈ l, q ∈ pre ++ (l ++ post) := fun q hq => List.mem_append_right _ (List.mem_append_left _ hq)
  refine namesAt (h₀ := g) F.keep (fun q hq => ⟨(N q (hNl q hq)).1, (N q (hNl q hq)).2.2⟩) hl hnd X T hdp hu hn hM1 hD1 hm1 hf1 fun u h' tk d l' hk' hl' he hN' => ?_
  obtain ⟨oi, hoi⟩ := hig
  have hLig : C ≠ ig := Ne.symm (N _ (hNl _ hoi)).2.1
  refine h u h' tk d l' ⟨F.ns.at' fun o e => hk' _ o hLig e, fun b o e => hk' b o (fun hb => ?_) (F.keep b o e), F.above⟩ (fun p hp => ?_) hl' he
  · rw [hb, (N _ (hNl _ hoi)).2.2] at e; cases e
  · have hother : ∀ p ∈ pre ++ post, h'.get? p.1 = some p.2 ∧ p.1 ≠ C ∧ g.get? p.1 = none := fun p hp => by
      have hm : p ∈ pre ++ (l ++ post) := by
        rcases List.mem_append.mp hp with hp | hp
        · exact List.mem_append_left _ hp
        · exact List.mem_append_right _ (List.mem_append_right _ hp)
      exact ⟨hk' _ _ (hap p hp _ hoi) (N p hm).1, (N p hm).2⟩
    rcases List.mem_append.mp hp with hp | hp
    · exact hother p (List.mem_append_left _ hp)
    · rcases List.mem_append.mp hp with hp | hp
      · have hk : p.1 ∈ l.map (·.1) := by rw [← he]; exact List.mem_map_of_mem hp
        obtain ⟨q, hq, hqe⟩ := List.mem_map.mp hk
        have := (N q (hNl q hq)).2
        rw [hqe] at this
        exact ⟨hN' p hp, this⟩
      · exact hother p (List.mem_append_right _ hp)
-- the three readers, and what each has been asked
def Rds3 (w : World) (left d0 d1 d2 : List (List Str)) (n0 n1 n2 : Nat) (x0 x1 x2 : Addr) (T U : List (Addr × Obj)) : Prop :=
  ∃ l0 l1 l2 ig0 ig1 ig2 s0 s1 s2, T = l0 ++ (l1 ++ (l2 ++ U)) ∧ RdL w l0 x0 ig0 (left.map dot) [] n0 s0 ∧ RdL w l1 x1 ig1 [] (left.map sl) n1 s1 ∧ RdL w l2 x2 ig2 ((pickE left).map dot) ((pickO left).map sl) n2 s2 ∧
    Known left d0 s0 ∧ Known left d1 s1 ∧ Known left d2 s2 ∧ (T.map (·.1)).Nodup
theorem nodup_parts {a b c d : List (Addr × Obj)} (h : ((a ++ (b ++ (c ++ d))).map (·.1)).Nodup) :
    (a.map (·.1)).Nodup ∧ (b.map (·.1)).Nodup ∧ (c.map (·.1)).Nodup ∧ (∀ p ∈ a, ∀ q ∈ b ++ (c ++ d), p.1 ≠ q.1) ∧ (∀ p ∈ b, ∀ q ∈ c ++ d, p.1 ≠ q.1) ∧ (∀ p ∈ c, ∀ q ∈ d, p.1 ≠ q.1) := by
  rw [List.map_append] at h
  obtain ⟨h1, h2, h3⟩ := List.nodup_append.mp h
  rw [List.map_append] at h2
  obtain ⟨h4, h5, h6⟩ := List.nodup_append.mp h2
  rw [List.map_append] at h5
  obtain ⟨h7, h8, h9⟩ := List.nodup_append.mp h5
  exact ⟨h1, h4, h7, fun p hp q hq => h3 _ (List.mem_map_of_mem hp) _ (List.mem_map_of_mem hq), fun p hp q hq => h6 _ (List.mem_map_of_mem hp) _ (List.mem_map_of_mem hq), fun p hp q hq => h9 _ (List.mem_map_of_mem hp) _ (List.mem_map_of_mem hq)⟩
variable {left d0 d1 d2 : List (List Str)} {n0 n1 n2 : Nat} {x0 x1 x2 : Addr} {T1 U pre post : List (Addr × Obj)} {f : Option Str} {tf t : Tok} {p : List Str}
structure AskIn (w : World) (dp un : Nat) (left : List (List Str)) (p : List Str) (f : Option Str) : Prop where
  dp : dp < 860
  un : un < 160
  l39 : ∀ q ∈ left, q ∈ names39
  p40 : p ∈ names40
  f1 : ∀ g, f = some g → g.length ≤ 200
theorem len_dot {A : List (List Str)} (h : ∀ q ∈ A, q ∈ names39) : ∀ k ∈ A.map dot, k.length ≤ 100 := fun k hk => by
  obtain ⟨q, hq, rfl⟩ := List.mem_map.mp hk
  exact (okAsk_parts (ask_ok (List.mem_append_left _ (h q hq)))).2.2.1
theorem len_sl {A : List (List Str)} (h : ∀ q ∈ A, q ∈ names39) : ∀ k ∈ A.map sl, k.length ≤ 100 := fun k hk => by
  obtain ⟨q, hq, rfl⟩ := List.mem_map.mp hk
  exact (okAsk_parts (ask_ok (List.mem_append_left _ (h q hq)))).2.2.2.1
theorem ask0 (F : Fr g C s.heap m) (N : News g C s.heap (pre ++ (T1 ++ post))) (X : (hd.heap_39 w.params).In g) (T : Top hd.view_39 loose mean mg mb g) (H : AskIn w dp un left p f) (hR : Rds3 w left d0 d1 d2 n0 n1 n2 x0 x1 x2 T1 U) (hap : ∀ q ∈ pre ++ post, ∀ r ∈ T1, q.1 ≠ r.1) (hn : n0 < 1000) (hd0 : ∀ q ∈ d0, q ∈ names40)
    (hs : ∀ sn, Known left d0 sn → says sn (left.map dot) [] f (dot p) = bit (due left p))
    (h : ∀ u h' tk d T2, Fr g C h' m → News g C h' (pre ++ (T2 ++ post)) → Rds3 w left (d0 ++ [p]) d1 d2 (n0 + 1) n1 n2 x0 x1 x2 T2 U → T2.map (·.1) = T1.map (·.1) → Q (.int (bit (due left p)) u) { s with heap := h', toks := tk, drawn := d }) :
    wpAny (model PySem.Challenge.rw_il0011_01.row.prog w) (Ar dp un fr gd) (call (.ref 156) [.ref x0, optV f tf, .str (dot p) t]) Q E s := by
  obtain ⟨l0, l1, l2, ig0, ig1, ig2, s0, s1, s2, rfl, R0, R1, R2, K0, K1, K2, hnd⟩ := hR
  obtain ⟨a1, a2, a3, a4, a5, a6⟩ := nodup_parts hnd
  have hdl := (okAsk_parts (ask_ok H.p40)).2.2.1
  refine askL (pre := pre) (l := l0) (post := (l1 ++ (l2 ++ U)) ++ post) F (by rw [List.append_assoc] at N; exact N) X T H.dp H.un R0 a1 ?_ hn (len_dot H.l39) (fun k hk => nomatch hk) hdl H.f1 fun u h' tk d l' F' N' R' he => ?_
  · intro q hq r hr
    rcases List.mem_append.mp hq with hq | hq
    · exact hap q (List.mem_append_left _ hq) r (List.mem_append_left _ hr)
    · rcases List.mem_append.mp hq with hq | hq
      · exact (a4 r hr q hq).symm
      · exact hap q (List.mem_append_right _ hq) r (List.mem_append_left _ hr)
  · rw [hs s0 K0] at R' ⊢
    have hke : (l' ++ (l1 ++ (l2 ++ U))).map (·.1) = (l0 ++ (l1 ++ (l2 ++ U))).map (·.1) := by simp only [List.map_append, he]
    exact h u h' tk d (l' ++ (l1 ++ (l2 ++ U))) F' (by rw [List.append_assoc]; exact N') ⟨l', l1, l2, ig0, ig1, ig2, _, s1, s2, rfl, R', R1, R2, known_put K0 hd0 H.p40, K1, K2, by rw [hke]; exact hnd⟩ hke
theorem ask1 (F : Fr g C s.heap m) (N : News g C s.heap (pre ++ (T1 ++ post))) (X : (hd.heap_39 w.params).In g) (T : Top hd.view_39 loose mean mg mb g) (H : AskIn w dp un left p f) (hR : Rds3 w left d0 d1 d2 n0 n1 n2 x0 x1 x2 T1 U) (hap : ∀ q ∈ pre ++ post, ∀ r ∈ T1, q.1 ≠ r.1) (hn : n1 < 1000) (hd1 : ∀ q ∈ d1, q ∈ names40)
    (hs : ∀ sn, Known left d1 sn → says sn [] (left.map sl) f (dot p) = bit (due left p))
    (h : ∀ u h' tk d T2, Fr g C h' m → News g C h' (pre ++ (T2 ++ post)) → Rds3 w left d0 (d1 ++ [p]) d2 n0 (n1 + 1) n2 x0 x1 x2 T2 U → T2.map (·.1) = T1.map (·.1) → Q (.int (bit (due left p)) u) { s with heap := h', toks := tk, drawn := d }) :
    wpAny (model PySem.Challenge.rw_il0011_01.row.prog w) (Ar dp un fr gd) (call (.ref 156) [.ref x1, optV f tf, .str (dot p) t]) Q E s := by
  obtain ⟨l0, l1, l2, ig0, ig1, ig2, s0, s1, s2, rfl, R0, R1, R2, K0, K1, K2, hnd⟩ := hR
  obtain ⟨a1, a2, a3, a4, a5, a6⟩ := nodup_parts hnd
  have hdl := (okAsk_parts (ask_ok H.p40)).2.2.1
  refine askL (pre := pre ++ l0) (l := l1) (post := (l2 ++ U) ++ post) F (by simpa only [List.append_assoc] using N) X T H.dp H.un R1 a2 ?_ hn (fun k hk => nomatch hk) (len_sl H.l39) hdl H.f1 fun u h' tk d l' F' N' R' he => ?_
  · intro q hq r hr
    have hr2 : r ∈ l0 ++ (l1 ++ (l2 ++ U)) := List.mem_append_right _ (List.mem_append_left _ hr)
    rcases List.mem_append.mp hq with hq | hq
    · rcases List.mem_append.mp hq with hq | hq
      · exact hap q (List.mem_append_left _ hq) r hr2
      · exact a4 q hq r (List.mem_append_left _ hr)
    · rcases List.mem_append.mp hq with hq | hq
      · exact (a5 r hr q hq).symm
      · exact hap q (List.mem_append_right _ hq) r hr2
  · rw [hs s1 K1] at R' ⊢
    have hke : (l0 ++ (l' ++ (l2 ++ U))).map (·.1) = (l0 ++ (l1 ++ (l2 ++ U))).map (·.1) := by simp only [List.map_append, he]
    exact h u h' tk d (l0 ++ (l' ++ (l2 ++ U))) F' (by simpa only [List.append_assoc] using N') ⟨l0, l', l2, ig0, ig1, ig2, s0, _, s2, rfl, R0, R', R2, K0, known_put K1 hd1 H.p40, K2, by rw [hke]; exact hnd⟩ hke
theorem ask2 (F : Fr g C s.heap m) (N : News g C s.heap (pre ++ (T1 ++ post))) (X : (hd.heap_39 w.params).In g) (T : Top hd.view_39 loose mean mg mb g) (H : AskIn w dp un left p f) (hR : Rds3 w left d0 d1 d2 n0 n1 n2 x0 x1 x2 T1 U) (hap : ∀ q ∈ pre ++ post, ∀ r ∈ T1, q.1 ≠ r.1) (hn : n2 < 1000) (hd2 : ∀ q ∈ d2, q ∈ names40)
    (hs : ∀ sn, Known left d2 sn → says sn ((pickE left).map dot) ((pickO left).map sl) f (dot p) = bit (due left p))
    (h : ∀ u h' tk d T2, Fr g C h' m → News g C h' (pre ++ (T2 ++ post)) → Rds3 w left d0 d1 (d2 ++ [p]) n0 n1 (n2 + 1) x0 x1 x2 T2 U → T2.map (·.1) = T1.map (·.1) → Q (.int (bit (due left p)) u) { s with heap := h', toks := tk, drawn := d }) :
    wpAny (model PySem.Challenge.rw_il0011_01.row.prog w) (Ar dp un fr gd) (call (.ref 156) [.ref x2, optV f tf, .str (dot p) t]) Q E s := by
  obtain ⟨l0, l1, l2, ig0, ig1, ig2, s0, s1, s2, rfl, R0, R1, R2, K0, K1, K2, hnd⟩ := hR
  obtain ⟨a1, a2, a3, a4, a5, a6⟩ := nodup_parts hnd
  have hdl := (okAsk_parts (ask_ok H.p40)).2.2.1
  refine askL (pre := pre ++ (l0 ++ l1)) (l := l2) (post := U ++ post) F (by simpa only [List.append_assoc] using N) X T H.dp H.un R2 a3 ?_ hn (len_dot fun q hq => H.l39 q (mem_picks.mp (.inl hq))) (len_sl fun q hq => H.l39 q (mem_picks.mp (.inr hq))) hdl H.f1 fun u h' tk d l' F' N' R' he => ?_
  · intro q hq r hr
    have hr2 : r ∈ l0 ++ (l1 ++ (l2 ++ U)) := List.mem_append_right _ (List.mem_append_right _ (List.mem_append_left _ hr))
    rcases List.mem_append.mp hq with hq | hq
    · rcases List.mem_append.mp hq with hq | hq
      · exact hap q (List.mem_append_left _ hq) r hr2
      · rcases List.mem_append.mp hq with hq | hq
        · exact a4 q hq r (List.mem_append_right _ (List.mem_append_left _ hr))
        · exact a5 q hq r (List.mem_append_left _ hr)
    · rcases List.mem_append.mp hq with hq | hq
      · exact (a6 r hr q hq).symm
      · exact hap q (List.mem_append_right _ hq) r hr2
  · rw [hs s2 K2] at R' ⊢
    have hke : (l0 ++ (l1 ++ (l' ++ U))).map (·.1) = (l0 ++ (l1 ++ (l2 ++ U))).map (·.1) := by simp only [List.map_append, he]
    exact h u h' tk d (l0 ++ (l1 ++ (l' ++ U))) F' (by simpa only [List.append_assoc] using N') ⟨l0, l1, l', ig0, ig1, ig2, s0, s1, _, rfl, R0, R1, R', K0, K1, known_put K2 hd2 H.p40, by rw [hke]; exact hnd⟩ hke
theorem meth0 {pl : Sem Bool} {Q : Value × List Value → Shared → Prop} (F : Fr g C s.heap m) (N : News g C s.heap (pre ++ (T1 ++ post))) (X : (hd.heap_39 w.params).In g) (hR : Rds3 w left d0 d1 d2 n0 n1 n2 x0 x1 x2 T1 U) (h : Q (.ref 156, [.ref x0]) s) :
    wpAny (model PySem.Challenge.rw_il0011_01.row.prog w) (Ar dp un fr gd) (getMethod (.ref x0) (Str.ofString "names") pl) Q E s := by
  obtain ⟨l0, l1, l2, ig0, ig1, ig2, s0, s1, s2, rfl, R0, R1, R2, K0, K1, K2, hnd⟩ := hR
  exact methRd R0 (fun q hq => (N q (List.mem_append_right _ (List.mem_append_left _ (List.mem_append_left _ hq)))).1) F X h
theorem meth1 {pl : Sem Bool} {Q : Value × List Value → Shared → Prop} (F : Fr g C s.heap m) (N : News g C s.heap (pre ++ (T1 ++ post))) (X : (hd.heap_39 w.params).In g) (hR : Rds3 w left d0 d1 d2 n0 n1 n2 x0 x1 x2 T1 U) (h : Q (.ref 156, [.ref x1]) s) :
    wpAny (model PySem.Challenge.rw_il0011_01.row.prog w) (Ar dp un fr gd) (getMethod (.ref x1) (Str.ofString "names") pl) Q E s := by
  obtain ⟨l0, l1, l2, ig0, ig1, ig2, s0, s1, s2, rfl, R0, R1, R2, K0, K1, K2, hnd⟩ := hR
  exact methRd R1 (fun q hq => (N q (List.mem_append_right _ (List.mem_append_left _ (List.mem_append_right _ (List.mem_append_left _ hq))))).1) F X h
theorem meth2 {pl : Sem Bool} {Q : Value × List Value → Shared → Prop} (F : Fr g C s.heap m) (N : News g C s.heap (pre ++ (T1 ++ post))) (X : (hd.heap_39 w.params).In g) (hR : Rds3 w left d0 d1 d2 n0 n1 n2 x0 x1 x2 T1 U) (h : Q (.ref 156, [.ref x2]) s) :
    wpAny (model PySem.Challenge.rw_il0011_01.row.prog w) (Ar dp un fr gd) (getMethod (.ref x2) (Str.ofString "names") pl) Q E s := by
  obtain ⟨l0, l1, l2, ig0, ig1, ig2, s0, s1, s2, rfl, R0, R1, R2, K0, K1, K2, hnd⟩ := hR
  exact methRd R2 (fun q hq => (N q (List.mem_append_right _ (List.mem_append_left _ (List.mem_append_right _ (List.mem_append_right _ (List.mem_append_left _ hq)))))).1) F X h
-- which of the three have been asked p, too
def Asked3 (k : Nat) (dn : List (List Str)) (p : List Str) (d0 d1 d2 : List (List Str)) : Prop :=
  (d0 = if 0 < k then dn ++ [p] else dn) ∧ (d1 = if 1 < k then dn ++ [p] else dn) ∧ (d2 = if 2 < k then dn ++ [p] else dn)
theorem apAll {T1 T2 own own2 : List (Addr × Obj)} {c1 c2 c3 c4 c5 c6 c7 c8 : Addr} {a1 a2 a3 a4 a5 a6 a7 a8 b1 b2 b3 b4 b5 b6 b7 b8 e1 e2 e3 e4 e5 e6 e7 e8 : Obj} (h : Apart T1 [c1, c2, c3, c4, c5, c6, c7, c8]) (hk : T2.map (·.1) = T1.map (·.1))
    (ho : ∀ p ∈ own, ∀ q ∈ (c1, a1) :: (c2, a2) :: (c3, a3) :: (c4, a4) :: (c5, a5) :: (c6, a6) :: (c7, a7) :: (c8, a8) :: T1, p.1 ≠ q.1)
    (ho2 : ∀ p ∈ own2, ∀ q ∈ (c1, b1) :: (c2, b2) :: (c3, b3) :: (c4, b4) :: (c5, b5) :: (c6, b6) :: (c7, b7) :: (c8, b8) :: (T2 ++ own), p.1 ≠ q.1) :
    ∀ q ∈ [(c1, e1), (c2, e2), (c3, e3), (c4, e4), (c5, e5), (c6, e6), (c7, e7), (c8, e8)] ++ (own ++ own2), ∀ r ∈ T2, q.1 ≠ r.1 := by
  have hT : ∀ r ∈ T2, ∃ r' ∈ T1, r'.1 = r.1 := fun r hr => by
    have : r.1 ∈ T1.map (·.1) := by rw [← hk]; exact List.mem_map_of_mem hr
    obtain ⟨q, hq, e⟩ := List.mem_map.mp this
    exact ⟨q, hq, e⟩
  intro q hq r hr
  obtain ⟨r', hr', er⟩ := hT r hr
  rcases List.mem_append.mp hq with hq | hq
  · rw [← er]
    refine (h r' hr' q.1 ?_).symm
    simp only [List.mem_cons, List.not_mem_nil, or_false] at hq ⊢
    rcases hq with rfl | rfl | rfl | rfl | rfl | rfl | rfl | rfl <;> simp
  · rcases List.mem_append.mp hq with hq | hq
    · rw [← er]
      exact ho q hq r' (.tail _ (.tail _ (.tail _ (.tail _ (.tail _ (.tail _ (.tail _ (.tail _ hr'))))))))
    · exact ho2 q hq r (.tail _ (.tail _ (.tail _ (.tail _ (.tail _ (.tail _ (.tail _ (.tail _ (List.mem_append_left _ hr)))))))))
end
end Mine
end
section
open PySem PySem.W PySem.Calls PyProof.Rows
set_option maxRecDepth 100000
namespace Mine
-- a call of a def whose names are shared with what it makes
theorem enterCells {prog : Program} {w : World} {A : Around} {s : Shared} {K : Frag} {p : Program} {loose : List Str} {mean : ExcName → Option Value} {mg mb : Str → Option Value}
    {R : Result → Shared → Prop} {name qual : Str} {params : Arguments} {body : List Stmt} {scope : Scope} {dV kV doc pm cdv ct oc : Value} {an od : Option Addr} {osl : Array (Option Value)} {f : Addr} {args : Args} (binds : List (Str × Value))
    (X : K.In s.heap) (T : Top p loose mean mg mb s.heap) (hroom : A.depth < recursionLimit)
    (ho : K.lookup f = some ⟨oc, od, .func (fnOf name qual params body scope dV kV doc pm an cdv ct), osl⟩) (hcd : codeIn K cdv qual = true)
    (hbind : BindsTo s (fnOf name qual params body scope dV kV doc pm an cdv ct) args binds)
    (hkind : ∀ n, ∀ x ∈ binds, scope.names.lookup x.1 = some .local ∨ (scope.names.lookup x.1 = some .cell ∧ ((cellsFrom n scope.names []).lookup x.1).isSome = true))
    (hnd : ((cellsFrom 0 scope.names []).map (·.1)).Nodup)
    (h : ∀ h₁ tk cells, Fr s.heap s.heap.objs.size h₁ (bindL (envOfC qual scope s.heap.objs.size f cdv).kindOf binds fun _ => none) → News s.heap s.heap.objs.size h₁ cells →
      CellsAre (bindC (envOfC qual scope s.heap.objs.size f cdv).kindOf binds fun _ => none) (cellsFrom (s.heap.objs.size + 1) scope.names []) cells →
      wpAny (model prog w) (A.deeper (envOfC qual scope s.heap.objs.size f cdv)) (execs body (envOfC qual scope s.heap.objs.size f cdv))
        (fun fl s' => R (.ok (.ret (match fl with | .ret v => v | _ => .none))) s') (fun _ _ => False) { s with heap := h₁, toks := tk })
    (hco : scope.isCoroutine = false) (hgen : scope.isGenerator = false) (hk : scope.kind = .function) : codeAny (model prog w) A (.call (.ref f) args) R s := by
  refine codeAny_call_function hroom (X _ _ ho) rfl hco hgen rfl (codeRec_of X hcd) (hbind _ _ _ _ ?_)
  refine wpAny_newFunctionEnv_cells hk (hkind _) fun env' he s' x => ?_
  subst he
  refine ⟨T.nolimit.keeps x.toInCall.keep, codeAny_func ?_⟩
  obtain ⟨h₁, tk, rfl, _⟩ := x.done
  have hk₁ := x.toInCall.keep
  obtain ⟨cells, NC, Y⟩ := Cl.news (h₀ := s.heap) (Nat.le_refl _) fun n c hm => ⟨x.cell n c (lookup_of_mem_nodup (cellsFrom_names scope.names 0 (s.heap.objs.size + 1) [] [] rfl ▸ hnd) hm), x.above n c hm⟩
  exact wpAny_mono (h h₁ tk cells ⟨x.toInCall.ns, hk₁, Nat.le_refl _⟩ NC Y) (fun _ _ y => y) fun _ _ y => y.elim
-- lists of lists of strs
def ListsV (h : Heap) (vs : List Value) (ps : List (List Str)) : Prop := ps.length = vs.length ∧ ∀ (i : Nat) (v : Value), vs[i]? = some v → ∃ l ws c p, v = .ref l ∧ h.get? l = some (listObj ws c) ∧ ps[i]? = some p ∧ StrsV ws p
theorem allNe_r {l : List (Addr × Obj)} {C D : Addr} (h : ∀ p ∈ l, p.1 ≠ C ∧ p.1 ≠ D) : AllNe l D := allNe_of fun p hp => (h p hp).2
theorem cells6 {cm : Str → Option Value} {n1 n2 n3 n4 n5 n6 : Str} {c1 c2 c3 c4 c5 c6 : Addr} {cells : List (Addr × Obj)} (x : CellsAre cm [(n1, c1), (n2, c2), (n3, c3), (n4, c4), (n5, c5), (n6, c6)] cells) :
    ∃ o1 o2 o3 o4 o5 o6, cells = [(c1, o1), (c2, o2), (c3, o3), (c4, o4), (c5, o5), (c6, o6)] ∧ o1.data = .cell (cm n1) ∧ o2.data = .cell (cm n2) ∧ o3.data = .cell (cm n3) ∧ o4.data = .cell (cm n4) ∧ o5.data = .cell (cm n5) ∧ o6.data = .cell (cm n6) := by
  cases x with | cons h1 r => cases r with | cons h2 r => cases r with | cons h3 r => cases r with | cons h4 r => cases r with | cons h5 r => cases r with | cons h6 r => cases r; exact ⟨_, _, _, _, _, _, rfl, h1, h2, h3, h4, h5, h6⟩
theorem strsAre_of : ∀ {vs : List Value} {ms : List Str}, StrsV vs ms → StrsAre vs ms
  | [], [], _ => .nil
  | [], m :: ms, h => by have := h.1; simp at this
  | v :: vs, [], h => by have := h.1; simp at this
  | v :: vs, m :: ms, h => by
    obtain ⟨k, t, hk, rfl⟩ := h.2 0 v rfl
    simp at hk
    subst hk
    exact .cons _ t (strsAre_of ⟨by have := h.1; simpa using this, fun i v hi => h.2 (i + 1) v hi⟩)
theorem joinV {prog : Program} {w : World} {A : Around} {E : Value → Shared → Prop} {s : Shared} {g : Heap} {L l : Addr} {m : Str → Option Value} {vs : List Value} {c : Nat} {ms : List Str} {sep : Str} {t : Tok} {Q : Value → Shared → Prop} (F : Fr g L s.heap m) (hl : g.get? l = some (listObj vs c)) (hv : StrsV vs ms)
    (hsep : sep.length ≤ 16) (hok : okParts ms = true) (h : ∀ t' k, Q (.str (Txt.join sep ms) t') { s with toks := k }) : wpAny (model prog w) A (call (.builtin "str.join") [.str sep t, .ref l]) Q E s := by
  refine join_listW (items := vs.toArray) (obj_list (F.keep _ _ hl)) (by simpa using strsAre_of hv) hsep ?_ h
  have hlen : ms.length ≤ 4 := by
    unfold okParts at hok
    obtain ⟨h1, _⟩ := and4 hok
    exact dec (and4 h1).2
  have hb : ∀ b ∈ ms, b.length ≤ 10 := fun b hb => (part_ok hok b hb).2.1
  have : (ms.map (·.length)).sum ≤ ms.length * 10 := by
    clear hok hlen h hv
    induction ms with
    | nil => simp
    | cons b r ih =>
      have h1 := hb b (.head _)
      have h2 := ih fun x hx => hb x (.tail _ hx)
      simp only [List.map_cons, List.sum_cons, List.length_cons]
      omega
  omega
theorem starV {prog : Program} {w : World} {A : Around} {E : Value → Shared → Prop} {s : Shared} {g : Heap} {L l : Addr} {m : Str → Option Value} {news : List (Addr × Obj)} {vs : List Value} {c : Nat} {Q : List Value → Shared → Prop} (F : Fr g L s.heap m) (N : News g L s.heap news) (hl : g.get? l = some (listObj vs c)) (hn : vs.length ≤ 1000)
    (h : ∀ h', Fr g L h' m → News g L h' news → Q vs { s with heap := h' }) : StarOf (model prog w) A E (.ref l) Q s := by
  have hg := F.keep _ _ hl
  have hT : s.TypeIs (.ref l) "list" := ⟨_, hg, rfl⟩
  unfold StarOf notIterableAtAll
  refine wpAny_bind (wpAny_specialOf hT PySem.F.slot_list_iter.lookup (wpAny_pure ⟨rfl, ?_⟩))
  refine wpAny_collect_seq l (T := "list") (.inl rfl) hg rfl rfl (fun h' hk => ?_) (by rw [List.size_toArray, sizeLine_eq]; omega)
  rw [List.toList_toArray]
  exact h h' (F.after hk) (N.grown hk)
theorem strsV_nil0 : StrsV [] [] := ⟨rfl, fun i v h => by simp at h⟩
theorem apartF {h g : Heap} {L : Addr} {l news : List (Addr × Obj)} (hf : ∀ q ∈ l, h.get? q.1 = none) (N : News g L h news) : ∀ q ∈ l, ∀ p ∈ news, q.1 ≠ p.1 := fun q hq p hp e => by
  have := hf q hq
  rw [e, (N p hp).1] at this; cases this
theorem newsSwap {h g : Heap} {L : Addr} {a b : List (Addr × Obj)} (N : News g L h (a ++ b)) : News g L h (b ++ a) := fun p hp => N p (by
  rcases List.mem_append.mp hp with h | h
  · exact List.mem_append_right _ h
  · exact List.mem_append_left _ h)
theorem norms_map {w : World} {loose : List Str} {mean : ExcName → Option Value} {mg mb : Str → Option Value} {left : List (List Str)} (h : ∀ p ∈ left, okNorm p = true ∧ p.length ≤ 3) : ∀ (i : Nat) (p r : Str), (left.map crook)[i]? = some p → (left.map sl)[i]? = some r → NormsTo w loose mean mg mb p r := fun i p r hp hr => by
  rw [List.getElem?_map] at hp hr
  cases hq : left[i]? with
  | none => rw [hq] at hp; cases hp
  | some q =>
    rw [hq] at hp hr
    simp at hp hr
    subst hp; subst hr
    obtain ⟨a, b⟩ := h q (List.mem_of_getElem? hq)
    exact normsTo_of a b
theorem holdF {g h : Heap} {L : Addr} {m : Str → Option Value} (F : Fr g L h m) : ∃ m', m' = m ∧ Fr g L h m' := ⟨m, rfl, F⟩
theorem open8 {g h : Heap} {L : Addr} {c1 c2 c3 c4 c5 c6 c7 c8 : Addr} {a1 a2 a3 a4 a5 a6 a7 a8 : Obj} {T : List (Addr × Obj)} {P Q : Obj → Prop} (N : News g L h ((c1, a1) :: (c2, a2) :: (c3, a3) :: (c4, a4) :: (c5, a5) :: (c6, a6) :: (c7, a7) :: (c8, a8) :: T)) (hI : P a4) (hO : Q a7) :
    ∃ b4 b7, P b4 ∧ Q b7 ∧ News g L h ((c1, a1) :: (c2, a2) :: (c3, a3) :: (c4, b4) :: (c5, a5) :: (c6, a6) :: (c7, b7) :: (c8, a8) :: T) := ⟨a4, a7, hI, hO, N⟩
theorem strBit {prog : Program} {w : World} {A : Around} {E : Value → Shared → Prop} {s : Shared} {b : Bool} {t : Tok} {Q : Value → Shared → Prop} (h : ∀ u tk, Q (.str (btx b) u) { s with toks := tk }) : wpAny (model prog w) A (call (.type "str") [.int (bit b) t]) Q E s := by
  cases b
  · exact PySem.P.str_of_int (by decide) (h _ _)
  · exact PySem.P.str_of_int (by decide) (h _ _)
theorem strsV_rep {ys : List Value} {k : Nat} {x : Str} {t : Tok} (h : StrsV ys (List.replicate k x)) : StrsV (ys ++ [.str x t]) (List.replicate (k + 1) x) := by
  rw [List.replicate_succ']
  exact strsV_app h strsV_one
theorem keys_same {T2 T3 own : List (Addr × Obj)} {c1 c2 c3 c4 c5 c6 c7 c8 : Addr} {a1 a2 a3 a4 a5 a6 a7 a8 b1 b2 b3 b4 b5 b6 b7 b8 : Obj} (h : T3.map (·.1) = T2.map (·.1)) {q : Addr × Obj} (hq : q ∈ (c1, a1) :: (c2, a2) :: (c3, a3) :: (c4, a4) :: (c5, a5) :: (c6, a6) :: (c7, a7) :: (c8, a8) :: (T3 ++ own)) :
    q.1 ∈ ((c1, b1) :: (c2, b2) :: (c3, b3) :: (c4, b4) :: (c5, b5) :: (c6, b6) :: (c7, b7) :: (c8, b8) :: (T2 ++ own)).map (·.1) := by
  have := List.mem_map_of_mem (f := fun p : Addr × Obj => p.1) hq
  simp only [List.map_cons, List.map_append, h] at this ⊢
  exact this
theorem bnd4 {i n : Nat} (h : i < n) (hn : n ≤ 100) : 4 * i + 1 + 2 < 1000 := by omega
theorem evalArgs_more {M : Model} {A : Around} {E : Value → Shared → Prop} {s : Shared} {f : Value} {x y : Bool × Sem Value} {rest : List (Bool × Sem Value)} {Q : Args → Shared → Prop}
    (h : wpAny M A (spliced (x :: y :: rest)) (fun vs s' => Q ⟨vs, []⟩ s') E s) : wpAny M A (evalArgs f true (x :: y :: rest) []) Q E s := by
  obtain ⟨b, x⟩ := x
  unfold evalArgs
  cases b
  · show wpAny M A (spliced ((false, x) :: y :: rest) >>= _) Q E s
    exact wpAny_bind (wpAny_mono h (fun vs s' h' => wpAny_holding (wpAny_bind (wpAny_pure (wpAny_bind (wpAny_pure (wpAny_pure h')))))) fun _ _ x => x)
  · show wpAny M A (spliced ((true, x) :: y :: rest) >>= _) Q E s
    exact wpAny_bind (wpAny_mono h (fun vs s' h' => wpAny_holding (wpAny_bind (wpAny_pure (wpAny_bind (wpAny_pure (wpAny_pure h')))))) fun _ _ x => x)
theorem callWith_more {M : Model} {A : Around} {E : Value → Shared → Prop} {s : Shared} {K : Frag} {env : Env} {pos p : Pos} {f : Value} {first : List Value} {Q : Value → Shared → Prop} {h₀ : Heap} {e e2 : PySem.Expr} {rest : List PySem.Expr} {x y : Bool × Sem Value} {more : List (Bool × Sem Value)}
    (_X : K.In h₀) (hk : keepIn K f = true) (h : wpAny M A (spliced (backTo pos (starEach (.Starred e p :: e2 :: rest) env))) (fun vs s₁ => K.In s₁.heap ∧ wpAny M A (call f (first ++ vs)) Q E s₁) E s)
    (he : backTo pos (starEach (.Starred e p :: e2 :: rest) env) = x :: y :: more := by rfl) (hx : x.1 = true := by rfl) :
    wpAny M A (callWith pos f first (backTo pos (starEach (.Starred e p :: e2 :: rest) env)) []) Q E s := by
  rw [he] at h ⊢
  exact ks_call (by rw [List.any_cons, hx, Bool.true_or]) (keeps_K hk) (evalArgs_more h)
end Mine
end
section
open PySem PySem.W PySem.Calls PyProof.Rows PySem.SeqAt
set_option maxRecDepth 100000
namespace Mine
-- the rows told, in a heap
def RowsH (h : Heap) (left ps : List (List Str)) (ts : List Value) : Prop :=
  ts.length = ps.length ∧ ∀ (j : Nat) (p : List Str), ps[j]? = some p → ∃ R c t1 t2 t3, ts[j]? = some (Value.ref R) ∧ h.get? R = some (listObj [.str (btx (due left p)) t1, .str (btx (due left p)) t2, .str (btx (due left p)) t3] c)
theorem carriedStrs {vs : List Value} {ms : List Str} (h : StrsV vs ms) : CarriedAll vs (ms.map PyData.str) := by
  have h2 := strsAre_of h
  clear h
  induction h2 with
  | nil => exact .nil
  | cons k t r ih => exact .cons (.str k t) ih
theorem eqvStrs : ∀ ns ms : List Str, PyData.eqvAll (ns.map PyData.str) (ms.map PyData.str) = decide (ns = ms)
  | [], [] => by simp [PyData.eqvAll]
  | [], _ :: _ => by simp [PyData.eqvAll]
  | _ :: _, [] => by simp [PyData.eqvAll]
  | a :: r, b :: t => by
    simp only [List.map_cons, PyData.eqvAll, PyData.eqv, eqvStrs r t]
    by_cases h : a = b <;> by_cases h' : r = t <;> simp [h, h']
theorem layStrs : ∀ {ms : List Str}, (∀ x ∈ ms, PyData.strOk x = true) → PyData.canLayAll0 (ms.map PyData.str) = true
  | [], _ => by simp [PyData.canLayAll0]
  | x :: r, h => by simp [PyData.canLayAll0, PyData.canLay0, h x (.head _), layStrs fun y hy => h y (.tail _ hy)]
theorem depthStrs : ∀ (ms : List Str), PyData.depthAll (ms.map PyData.str) ≤ 1
  | [] => by simp [PyData.depthAll]
  | x :: r => by
    have := depthStrs r
    simp only [List.map_cons, PyData.depthAll, PyData.depth]
    omega
theorem shapedStrs {ms : List Str} (h : ∀ x ∈ ms, PyData.strOk x = true) : shaped (.list (ms.map PyData.str)) = true := by
  have h1 := depthStrs ms
  have h2 : PyData.depth (.list (ms.map PyData.str)) ≤ 64 := by simp only [PyData.depth]; omega
  show (PyData.canLay0 (.list (ms.map PyData.str)) && decide (PyData.depth (.list (ms.map PyData.str)) ≤ 64)) = true
  rw [Bool.and_eq_true]
  exact ⟨by simp only [PyData.canLay0]; exact layStrs h, decide_eq_true h2⟩
theorem ok40 : names40.all (fun p => p.all fun x => PyData.strOk x) = true := by decide +kernel
theorem strOk_of {p : List Str} (h : p ∈ names40) : ∀ x ∈ p, PyData.strOk x = true := fun x hx => List.all_eq_true.mp (List.all_eq_true.mp ok40 p h) x hx
theorem pre_take {p q : List Str} : decide (p.take q.length = q) = q.isPrefixOf p := by
  rw [Bool.eq_iff_iff, decide_eq_true_eq, List.isPrefixOf_iff_prefix, List.prefix_iff_eq_take]
  exact ⟨fun h => h.symm, fun h => h.symm⟩
section
variable {prog : Program} {w : World} {A : Around} {E : Value → Shared → Prop} {s : Shared} {Q : Value → Shared → Prop}
theorem eqStrs {a b : Addr} {vs us : List Value} {ms ns : List Str} (hl : s.heap.IsList a vs.toArray) (hm : StrsV vs ms) (hl' : s.heap.IsList b us.toArray) (hn : StrsV us ns) (hu : A.units + 64 < cLine)
    (o1 : ∀ x ∈ ms, PyData.strOk x = true) (o2 : ∀ x ∈ ns, PyData.strOk x = true) (h : Q (.bool (decide (ms = ns))) s) : wpAny (model prog w) A (compareOp .Eq (.ref a) (.ref b)) Q E s :=
  eq_dataH (reads_newData hl (carriedStrs hm)) (reads_newData hl' (carriedStrs hn)) (shapedStrs o1) (shapedStrs o2) hu (by simp only [PyData.eqv]; rw [eqvStrs]; exact h)
end
-- the rows as data
def rowOf (left : List (List Str)) (p : List Str) : PyData := .list [.str (btx (due left p)), .str (btx (due left p)), .str (btx (due left p))]
theorem rowLay (left : List (List Str)) (p : List Str) : PyData.canLay0 (rowOf left p) = true := by
  unfold rowOf
  cases due left p <;> decide +kernel
theorem rowDepth (left : List (List Str)) (p : List Str) : PyData.depth (rowOf left p) ≤ 2 := by
  unfold rowOf
  simp only [PyData.depth, PyData.depthAll]
  decide
theorem rowsLay (left : List (List Str)) : ∀ ps : List (List Str), PyData.canLayAll0 (ps.map (rowOf left)) = true
  | [] => by simp [PyData.canLayAll0]
  | p :: r => by simp [PyData.canLayAll0, rowLay, rowsLay left r]
theorem rowsDepth (left : List (List Str)) : ∀ ps : List (List Str), PyData.depthAll (ps.map (rowOf left)) ≤ 3
  | [] => by simp [PyData.depthAll]
  | p :: r => by
    have := rowsDepth left r
    have := rowDepth left p
    simp only [List.map_cons, PyData.depthAll]
    omega
theorem rowsShaped (left ps : List (List Str)) : shaped (.list (ps.map (rowOf left))) = true := by
  have h1 := rowsDepth left ps
  have h2 : PyData.depth (.list (ps.map (rowOf left))) ≤ 64 := by simp only [PyData.depth]; omega
  show (PyData.canLay0 (.list (ps.map (rowOf left))) && decide (PyData.depth (.list (ps.map (rowOf left))) ≤ 64)) = true
  rw [Bool.and_eq_true]
  exact ⟨by simp only [PyData.canLay0]; exact rowsLay left ps, decide_eq_true h2⟩
theorem readsRow {h : Heap} {R : Addr} {c : Nat} {x : Str} {t1 t2 t3 : Tok} (hR : h.get? R = some (listObj [.str x t1, .str x t2, .str x t3] c)) : Reads h (.ref R) (.list [.str x, .str x, .str x]) [R] :=
  .list hR rfl rfl (.cons (.str x t1) (.cons (.str x t2) (.cons (.str x t3) .nil)))
theorem readsRows {h : Heap} {left : List (List Str)} : ∀ {ps : List (List Str)} {ts : List Value}, RowsH h left ps ts → ∃ as, ReadsAll h ts (ps.map (rowOf left)) as
  | [], [], _ => ⟨_, .nil⟩
  | [], t :: ts, hh => by have := hh.1; simp at this
  | p :: ps, [], hh => by have := hh.1; simp at this
  | p :: ps, t :: ts, hh => by
    obtain ⟨R, c, t1, t2, t3, h1, h2⟩ := hh.2 0 p rfl
    simp at h1
    subst h1
    obtain ⟨as, ih⟩ := readsRows (h := h) (left := left) (ps := ps) (ts := ts) ⟨by have := hh.1; simpa using this, fun j q hq => hh.2 (j + 1) q hq⟩
    exact ⟨_, .cons (readsRow h2) ih⟩
theorem eqRows {prog : Program} {w : World} {A : Around} {E : Value → Shared → Prop} {s : Shared} {Q : Value → Shared → Prop} {a b : Addr} {ts us : List Value} {c d : Nat} {left ps : List (List Str)} (ha : s.heap.get? a = some (listObj ts c)) (hb : s.heap.get? b = some (listObj us d)) (ra : RowsH s.heap left ps ts) (rb : RowsH s.heap left ps us) (hu : A.units + 64 < cLine)
    (h : Q (.bool true) s) : wpAny (model prog w) A (compareOp .Eq (.ref a) (.ref b)) Q E s := by
  obtain ⟨as, r1⟩ := readsRows ra
  obtain ⟨bs, r2⟩ := readsRows rb
  refine eq_dataH (.list ha rfl rfl (by simpa using r1)) (.list hb rfl rfl (by simpa using r2)) (rowsShaped left ps) (rowsShaped left ps) hu ?_
  rw [eqv_refl _ (by simp only [PyData.canLay0]; exact rowsLay left ps)]
  exact h
end Mine
end
section
open PySem PySem.W PySem.Calls PyProof.Rows
set_option maxRecDepth 100000
namespace Mine
theorem offLD : True := by
  w_top off
  exact True.intro
local macro_rules | `(tactic| walk_at "pad") => `(tactic| skip)
theorem cells1 {cm : Str → Option Value} {n1 : Str} {c1 : Addr} {cells : List (Addr × Obj)} (x : CellsAre cm [(n1, c1)] cells) : ∃ o1, cells = [(c1, o1)] ∧ o1.data = .cell (cm n1) := by
  cases x with | cons h1 r => cases r; exact ⟨_, rfl, h1⟩
theorem strsV_take {vs : List Value} {ms : List Str} {n : Nat} (h : StrsV vs ms) : StrsV (vs.take n) (ms.take n) := by
  refine ⟨by rw [List.length_take, List.length_take, h.1], fun i v hi => ?_⟩
  rw [List.getElem?_take] at hi
  by_cases hlt : i < n
  · rw [if_pos hlt] at hi
    obtain ⟨k, t, hk, e⟩ := h.2 i v hi
    exact ⟨k, t, by rw [List.getElem?_take, if_pos hlt]; exact hk, e⟩
  · rw [if_neg hlt] at hi; cases hi
theorem filt_succ {left : List (List Str)} {k : Nat} {q : List Str} {f : List Str → Bool} (h : left[k]? = some q) : (left.take (k + 1)).filter f = if f q = true then (left.take k).filter f ++ [q] else (left.take k).filter f := by
  rw [List.take_add_one, h, Option.toList_some, List.filter_append]
  by_cases hf : f q = true
  · rw [if_pos hf, List.filter_cons_of_pos hf, List.filter_nil]
  · rw [if_neg hf, List.filter_cons_of_neg hf, List.filter_nil, List.append_nil]
theorem take_succ {l : List (List Str)} {k : Nat} {q : List Str} (h : l[k]? = some q) : l.take (k + 1) = l.take k ++ [q] := by
  rw [List.take_add_one, h, Option.toList_some]
theorem apart_cons {U : List (Addr × Obj)} {R a b : Addr} {o : Obj} (h : Apart U [a, b]) (h1 : R ≠ a) (h2 : R ≠ b) : Apart ((R, o) :: U) [a, b] := by
  intro p hp c hc
  rcases List.mem_cons.mp hp with rfl | hp
  · simp only [List.mem_cons, List.not_mem_nil, or_false] at hc
    rcases hc with rfl | rfl
    · exact h1
    · exact h2
  · exact h p hp c hc
theorem len_40 {p : List Str} (h : p ∈ names40) : p.length ≤ 4 := okParts_len (okAsk_parts (ask_ok h)).1
theorem lenV {prog : Program} {w : World} {A : Around} {E : Value → Shared → Prop} {s : Shared} {g : Heap} {L l : Addr} {m : Str → Option Value} {vs : List Value} {c : Nat} {Q : Value → Shared → Prop} (F : Fr g L s.heap m) (hl : g.get? l = some (listObj vs c)) (hn : vs.length ≤ 1000)
    (h : ∀ u tk, Q (.int (vs.length : Int) u) { s with toks := tk }) : wpAny (model prog w) A (call (.builtin "len") [.ref l]) Q E s :=
  len_list (obj_list (F.keep _ _ hl)) (by rw [List.size_toArray]; omega) (h _ _)
theorem due_len {left : List (List Str)} {p : List Str} {ys : List Value} (h : ys.length = (left.filter fun q => q.isPrefixOf p).length) : ((ys.take 1).length : Int) = bit (due left p) := by
  rw [List.length_take, h]
  unfold due bit
  by_cases ha : (left.any fun q => q.isPrefixOf p) = true
  · rw [if_pos ha]
    obtain ⟨q, hq, hp⟩ := List.any_eq_true.mp ha
    have : 0 < (left.filter fun q => q.isPrefixOf p).length := List.length_pos_of_mem (List.mem_filter.mpr ⟨hq, hp⟩)
    omega
  · rw [if_neg ha]
    have : left.filter (fun q => q.isPrefixOf p) = [] := List.filter_eq_nil_iff.mpr fun q hq hp => ha (List.any_eq_true.mpr ⟨q, hq, hp⟩)
    rw [this]; rfl
theorem slicePick_upto1 (items : Array Value) : slicePick items none (some 1) none = (items.toList.take 1).toArray := slicePick_upto' items 1
theorem lenN {prog : Program} {w : World} {A : Around} {E : Value → Shared → Prop} {s : Shared} {g : Heap} {L l : Addr} {news : List (Addr × Obj)} {vs : List Value} {c : Nat} {k : Int} {Q : Value → Shared → Prop} (N : News g L s.heap news) (hm : (l, listObj vs c) ∈ news) (hk : (vs.length : Int) = k) (hn : vs.length ≤ 1000)
    (h : ∀ u tk, Q (.int k u) { s with toks := tk }) : wpAny (model prog w) A (call (.builtin "len") [.ref l]) Q E s := by
  subst hk
  exact len_list (obj_list (N.get hm)) (by rw [List.size_toArray]; omega) (by rw [List.size_toArray]; exact h _ _)
theorem mulL {prog : Program} {w : World} {A : Around} {E : Value → Shared → Prop} {s : Shared} {g : Heap} {L l : Addr} {m : Str → Option Value} {news : List (Addr × Obj)} {v : Value} {c : Nat} {u : Tok} {Q : Value → Shared → Prop} (F : Fr g L s.heap m) (N : News g L s.heap news) (hm : (l, listObj [v] c) ∈ news)
    (h : ∀ D h', Fr g L h' m → News g L h' ((D, listObj [v, v, v] 0) :: news) → (∀ p ∈ news, p.1 < D) → Q (.ref D) { s with heap := h' }) : wpAny (model prog w) A (binaryOp .Mult (.ref l) (.int 3 u)) Q E s :=
  mul_list F N (N.get hm) (by decide) (by decide) (by show 1 * 3 ≤ 2 ^ 24; decide) fun h' F' N' => h _ h' F' N' fun p hp => Heap.lt_size (N p hp).1
theorem appL {prog : Program} {w : World} {A : Around} {E : Value → Shared → Prop} {s : Shared} {g : Heap} {L T : Addr} {m : Str → Option Value} {news : List (Addr × Obj)} {ts : List Value} {v : Value} {c : Nat} {Q : Value → Shared → Prop} (F : Fr g L s.heap m) (N : News g L s.heap news) (hm : (T, listObj ts c) ∈ news) (hsz : ts.length ≤ 1000)
    (h : ∀ h' c', Fr g L h' m → (∀ news', (∀ p ∈ news', p ∈ news ∧ p.1 ≠ T) → News g L h' ((T, listObj (ts ++ [v]) c') :: news')) → Q .none { s with heap := h' }) : wpAny (model prog w) A (call (.builtin "list.append") [.ref T, v]) Q E s := by
  refine wpAny_list_append_plain (hsz := by rw [List.size_toArray, sizeLine_eq]; omega) ⟨c, (N _ hm).1⟩ fun h' hpl hs => ?_
  rw [List.push_toArray] at hpl
  obtain ⟨c', hT⟩ := hpl
  refine h h' c' (F.change hs (N _ hm).2.1 (N _ hm).2.2) fun news' hn p hp => ?_
  rcases List.mem_cons.mp hp with rfl | hp
  · exact ⟨hT, (N _ hm).2⟩
  · exact ⟨hs.extBut _ _ (hn p hp).2 (N p (hn p hp).1).1, (N p (hn p hp).1).2⟩
theorem due_pick {g h : Heap} {L RD TL cO : Addr} {o oR oT oT0 : Obj} {x1 x2 x3 : Addr × Obj} {V : List (Addr × Obj)} (NN : ∀ news', (∀ p ∈ news', p ∈ (RD, oR) :: x1 :: x2 :: x3 :: (TL, oT0) :: (cO, o) :: V ∧ p.1 ≠ TL) → News g L h ((TL, oT) :: news'))
    (h1 : ∀ p ∈ x1 :: x2 :: x3 :: (TL, oT0) :: (cO, o) :: V, p.1 < RD) (h2 : cO < TL) (h3 : ∀ p ∈ V, p.1 ≠ TL) : News g L h ((TL, oT) :: (cO, o) :: (RD, oR) :: V) := by
  refine NN _ fun p hp => ?_
  rcases List.mem_cons.mp hp with rfl | hp
  · exact ⟨.tail _ (.tail _ (.tail _ (.tail _ (.tail _ (.head _))))), Nat.ne_of_lt h2⟩
  · rcases List.mem_cons.mp hp with rfl | hp
    · exact ⟨.head _, Ne.symm (Nat.ne_of_lt (h1 (TL, oT0) (.tail _ (.tail _ (.tail _ (.head _))))))⟩
    · exact ⟨.tail _ (.tail _ (.tail _ (.tail _ (.tail _ (.tail _ hp))))), h3 p hp⟩
theorem rows_snoc {left ps : List (List Str)} {p : List Str} {ts : List Value} {U : List (Addr × Obj)} {R : Addr} {c : Nat} {t1 t2 t3 : Tok} (h : Rows left ps ts U) : Rows left (ps ++ [p]) (ts ++ [.ref R]) ((R, listObj [.str (btx (due left p)) t1, .str (btx (due left p)) t2, .str (btx (due left p)) t3] c) :: U) := by
  refine ⟨by rw [List.length_append, List.length_append, h.1]; rfl, fun j q hq => ?_⟩
  by_cases hlt : j < ps.length
  · rw [List.getElem?_append_left hlt] at hq
    obtain ⟨R', c', u1, u2, u3, h1, h2⟩ := h.2 j q hq
    exact ⟨R', c', u1, u2, u3, by rw [List.getElem?_append_left (by rw [h.1]; exact hlt)]; exact h1, .tail _ h2⟩
  · have hlt2 := Nat.le_of_not_lt hlt
    rw [List.getElem?_append_right hlt2] at hq
    have hj : j - ps.length = 0 := by
      have := (List.getElem?_eq_some_iff.mp hq).1
      simp at this; omega
    rw [hj] at hq
    simp at hq
    subst hq
    exact ⟨R, c, t1, t2, t3, by rw [List.getElem?_append_right (by rw [h.1]; exact hlt2), h.1, hj]; rfl, .head _⟩
local macro_rules | `(tactic| walk_at "call builtin:len") => `(tactic| (refine lenN (by with_reducible assumption) (by k_mem) (by with_reducible assumption) (by (rw [List.length_take]; omega)) ?_; intro _ _))
local macro_rules | `(tactic| walk_at "call type:str int") => `(tactic| (refine strBit ?_; intro _ _))
local macro_rules | `(tactic| walk_at "call type:str") => `(tactic| (refine strBit ?_; intro _ _))
local macro_rules | `(tactic| walk_at "call builtin:len") => `(tactic| (refine lenV (by with_reducible assumption) (by with_reducible assumption) (by with_reducible assumption) ?_; intro _ _))
local macro_rules | `(tactic| k_all) => `(tactic| with_reducible assumption)
theorem addL {prog : Program} {w : World} {A : Around} {E : Value → Shared → Prop} {s : Shared} {g : Heap} {L l b : Addr} {m : Str → Option Value} {news : List (Addr × Obj)} {vs ws : List Value} {Q : Value → Shared → Prop} (F : Fr g L s.heap m) (N : News g L s.heap news) (hl : s.heap.IsList l vs.toArray) (hb : s.heap.IsList b ws.toArray) (hsz : vs.length + ws.length ≤ 1000)
    (h : ∀ D h', Fr g L h' m → News g L h' ((D, listObj (vs ++ ws) 0) :: news) → (∀ p ∈ news, p.1 < D) → Q (.ref D) { s with heap := h' }) : wpAny (model prog w) A (binaryOp .Add (.ref l) (.ref b)) Q E s :=
  add_lists (vs := vs) (ws := ws) (hsz := by rw [sizeLine_eq]; omega) F N hl hb fun h' F' N' => h _ h' F' N' fun p hp => Heap.lt_size (N p hp).1
theorem listsV_app {h : Heap} {vs ws : List Value} {ps qs : List (List Str)} (a : ListsV h vs ps) (b : ListsV h ws qs) : ListsV h (vs ++ ws) (ps ++ qs) := by
  refine ⟨by rw [List.length_append, List.length_append, a.1, b.1], fun i v hi => ?_⟩
  by_cases hlt : i < vs.length
  · rw [List.getElem?_append_left hlt] at hi
    obtain ⟨l, w, c, p, e, h1, h2, h3⟩ := a.2 i v hi
    exact ⟨l, w, c, p, e, h1, by rw [List.getElem?_append_left (by rw [a.1]; exact hlt)]; exact h2, h3⟩
  · rw [List.getElem?_append_right (Nat.le_of_not_lt hlt)] at hi
    obtain ⟨l, w, c, p, e, h1, h2, h3⟩ := b.2 _ v hi
    exact ⟨l, w, c, p, e, h1, by rw [List.getElem?_append_right (by rw [a.1]; exact Nat.le_of_not_lt hlt), a.1]; exact h2, h3⟩
theorem listsV_rev {h : Heap} {vs : List Value} {ps : List (List Str)} (a : ListsV h vs ps) : ListsV h vs.reverse ps.reverse := by
  refine ⟨by rw [List.length_reverse, List.length_reverse, a.1], fun i v hi => ?_⟩
  have hlt : i < vs.length := by
    have := (List.getElem?_eq_some_iff.mp hi).1
    rwa [List.length_reverse] at this
  rw [List.getElem?_reverse hlt] at hi
  obtain ⟨l, w, c, p, e, h1, h2, h3⟩ := a.2 _ v hi
  exact ⟨l, w, c, p, e, h1, by rw [List.getElem?_reverse (by rw [a.1]; exact hlt), a.1]; exact h2, h3⟩
theorem rowsU_nil {left : List (List Str)} {U : List (Addr × Obj)} : Rows left [] [] U := ⟨rfl, fun j p h => by simp at h⟩
section
variable {w : World} {dp un : Nat} {fr : Option (List Env)} {gd : Option (List Code)} {s : Shared} {loose : List Str} {mean : ExcName → Option Value} {mg mb : Str → Option Value} {R : Result → Shared → Prop} {Q E : Value → Shared → Prop} {h₀ : Heap} {L : Addr} {m : Str → Option Value} {news : List (Addr × Obj)}
set_option maxHeartbeats 2000000
theorem dueC {al ll : Addr} {avs lvs : List Value} {ac lc : Nat} {asked left : List (List Str)} (G : KT w loose mean mg mb s.heap) (hdp : dp < 800) (hu : un < 100)
    (hal : s.heap.get? al = some (listObj avs ac)) (hll : s.heap.get? ll = some (listObj lvs lc)) (hA : ListsV s.heap avs asked) (hL : ListsV s.heap lvs left) (han : asked.length ≤ 100) (hln : left.length ≤ 100)
    (hask : ∀ p ∈ asked, p ∈ names40) (hl39 : ∀ p ∈ left, p ∈ names39)
    (hR : ∀ D ts c h' tk d, (∀ b o, s.heap.get? b = some o → h'.get? b = some o) → s.heap.get? D = none → h'.get? D = some (listObj ts c) → RowsH h' left (asked ++ asked.reverse) ts → R (.ok (.ret (.ref D))) { s with heap := h', toks := tk, drawn := d }) :
    codeAny (model PySem.Challenge.rw_il0011_01.row.prog w) (Ar dp un fr gd) (.call (.ref 201) ⟨[.ref al, .ref ll], []⟩) R s := by
  obtain ⟨X, T⟩ := G
  revert X; k_fill; intro X
  refine' enterCells (K := hd.heap_39 w.params) [(Str.ofString "asked", .ref al), (Str.ofString "left", .ref ll)] X T ?kd ?k6 ?k7 ?k9 ?kB ?kD ?_ ?c2 ?c3 ?c4
  (case k6 => k_is)
  (case kd => (simp only [recursionLimit] at *; omega))
  (case k7 => k_is)
  (case k9 => exact BindsTo.of_eq rfl)
  (case c2 => exact rfl)
  (case c3 => exact rfl)
  (case c4 => exact rfl)
  (case kD => decide +kernel)
  (case kB =>
    intro n x hx
    rcases List.mem_cons.mp hx with rfl | hx
    · exact .inl rfl
    · rw [List.mem_singleton.mp hx]; exact .inl rfl)
  intro h₁ tk cells F N Y
  obtain ⟨o1, rfl, e1⟩ := cells1 Y
  clear Y
  have hllL : ll ≠ s.heap.objs.size := Nat.ne_of_lt (Heap.lt_size hll)
  have halL : al ≠ s.heap.objs.size := Nat.ne_of_lt (Heap.lt_size hal)
  (repeat' (first | (k_unfold; (try dsimp only)) | ((fail_if_success (with_reducible show wpAny _ _ (eval (PySem.Expr.ListComp _ _ _ _) _) _ _ _)); (fail_if_success (with_reducible show wpAny _ _ (exec (PySem.Stmt.For _ _ _ _ _) _) _ _ _)); (fail_if_success (with_reducible show wpAny _ _ (binaryOp _ (Value.ref _) _) _ _ _)); (fail_if_success (with_reducible show wpAny _ _ (compareOp _ (Value.ref _) _) _ _ _)); (fail_if_success (with_reducible show wpAny _ _ (subscriptTail _ _ (Value.ref _) (Value.ref _)) _ _ _)); walk1) | (dsimp only; (fail_if_success (with_reducible show wpAny _ _ (eval (PySem.Expr.ListComp _ _ _ _) _) _ _ _)); (fail_if_success (with_reducible show wpAny _ _ (exec (PySem.Stmt.For _ _ _ _ _) _) _ _ _)); (fail_if_success (with_reducible show wpAny _ _ (binaryOp _ (Value.ref _) _) _ _ _)); (fail_if_success (with_reducible show wpAny _ _ (compareOp _ (Value.ref _) _) _ _ _)); (fail_if_success (with_reducible show wpAny _ _ (subscriptTail _ _ (Value.ref _) (Value.ref _)) _ _ _)); walk1)))
  refine execFor ?_
  (repeat' (first | (k_unfold; (try dsimp only)) | ((fail_if_success (with_reducible show wpAny _ _ (eval (PySem.Expr.ListComp _ _ _ _) _) _ _ _)); (fail_if_success (with_reducible show wpAny _ _ (exec (PySem.Stmt.For _ _ _ _ _) _) _ _ _)); (fail_if_success (with_reducible show wpAny _ _ (binaryOp _ (Value.ref _) _) _ _ _)); (fail_if_success (with_reducible show wpAny _ _ (compareOp _ (Value.ref _) _) _ _ _)); (fail_if_success (with_reducible show wpAny _ _ (subscriptTail _ _ (Value.ref _) (Value.ref _)) _ _ _)); walk1) | (dsimp only; (fail_if_success (with_reducible show wpAny _ _ (eval (PySem.Expr.ListComp _ _ _ _) _) _ _ _)); (fail_if_success (with_reducible show wpAny _ _ (exec (PySem.Stmt.For _ _ _ _ _) _) _ _ _)); (fail_if_success (with_reducible show wpAny _ _ (binaryOp _ (Value.ref _) _) _ _ _)); (fail_if_success (with_reducible show wpAny _ _ (compareOp _ (Value.ref _) _) _ _ _)); (fail_if_success (with_reducible show wpAny _ _ (subscriptTail _ _ (Value.ref _) (Value.ref _)) _ _ _)); walk1)))
  (with_reducible rename Fr _ _ _ _ => FF); (with_reducible rename News _ _ _ _ => NF)
  have havL : avs.length ≤ 100 := by rw [← hA.1]; exact han
  refine krv_lit (zs := avs.reverse) FF NF (obj_list (FF.keep _ _ hal)) (.int _ _) (by rw [List.toList_toArray]) ?_ (by with_unfolding_all rfl) (fun _ => rfl) (by rw [List.size_toArray, sizeLine_eq]; omega)
  intro D hx6 F' N' lD
  clear FF NF
  (repeat' (first | (k_unfold; (try dsimp only)) | ((fail_if_success (with_reducible show wpAny _ _ (eval (PySem.Expr.ListComp _ _ _ _) _) _ _ _)); (fail_if_success (with_reducible show wpAny _ _ (exec (PySem.Stmt.For _ _ _ _ _) _) _ _ _)); (fail_if_success (with_reducible show wpAny _ _ (binaryOp _ (Value.ref _) _) _ _ _)); (fail_if_success (with_reducible show wpAny _ _ (compareOp _ (Value.ref _) _) _ _ _)); (fail_if_success (with_reducible show wpAny _ _ (subscriptTail _ _ (Value.ref _) (Value.ref _)) _ _ _)); walk1) | (dsimp only; (fail_if_success (with_reducible show wpAny _ _ (eval (PySem.Expr.ListComp _ _ _ _) _) _ _ _)); (fail_if_success (with_reducible show wpAny _ _ (exec (PySem.Stmt.For _ _ _ _ _) _) _ _ _)); (fail_if_success (with_reducible show wpAny _ _ (binaryOp _ (Value.ref _) _) _ _ _)); (fail_if_success (with_reducible show wpAny _ _ (compareOp _ (Value.ref _) _) _ _ _)); (fail_if_success (with_reducible show wpAny _ _ (subscriptTail _ _ (Value.ref _) (Value.ref _)) _ _ _)); walk1)))
  (with_reducible rename Fr _ _ _ _ => FF); (with_reducible rename News _ _ _ _ => NF)
  refine addL FF NF (obj_list (FF.keep _ _ hal)) (NF.isList (by k_mem)) (by rw [List.length_reverse]; omega) ?_
  intro SD hx7 F' N' lSD
  clear FF NF
  have nSD := N'.get (.head _)
  have gSD := (N' _ (.head _)).2.2
  have LSD := (N' _ (.head _)).2.1
  dsimp only at gSD LSD
  have aSD : ∀ p ∈ [(_, W.listOf #[] 0), (s.heap.objs.size + 1, o1)], p.1 ≠ SD := fun p hp => Nat.ne_of_lt (lSD p (.tail _ hp))
  clear lSD lD
  (repeat' (first | (k_unfold; (try dsimp only)) | ((fail_if_success (with_reducible show wpAny _ _ (pyIter _) _ _ _)); walk1) | (dsimp only;  (fail_if_success (with_reducible show wpAny _ _ (pyIter _) _ _ _)); walk1)))
  (with_reducible rename Fr _ _ _ _ => FF); (with_reducible rename News _ _ _ _ => NF)
  rename_i TL hq1 lTL hq2
  obtain ⟨m9, hm9, F10⟩ := holdF FF
  clear FF
  have hAA := listsV_app hA (listsV_rev hA)
  refine forListNB rfl F10 (news := [(TL, listObj [] 0), (s.heap.objs.size + 1, o1)]) (fun p hp => NF p (.tail _ (.tail _ hp))) nSD LSD gSD aSD
    (fun i m' nw => m' = m9 ∧ ∃ p1 ts ct U, nw = (TL, listObj ts ct) :: (s.heap.objs.size + 1, p1) :: U ∧ (∃ v, p1.data = .cell v) ∧ Apart U [TL, s.heap.objs.size + 1] ∧ Rows left ((asked ++ asked.reverse).take i) ts U) ?_ ?_ ?_
  · exact ⟨rfl, o1, [], 0, [], rfl, ⟨_, e1⟩, (fun p hp => nomatch hp), rowsU_nil⟩
  · rintro i v m₁ news₁ own s₁ Qs ⟨hh, tkk, drr, rfl⟩ hi hv ⟨rfl, p1, ts, ct, U, rfl, ⟨v1, hp1⟩, hap, hrows⟩ F₁ N₁ hap2 hQ
    obtain ⟨l, ws, c, p, rfl, hl, hp, hws⟩ := hAA.2 i v hv
    have hown := hap2 trivial
    have hp40 : p ∈ names40 := by
      rcases List.mem_append.mp (List.mem_of_getElem? hp) with h | h
      · exact hask p h
      · exact hask p (List.mem_reverse.mp h)
    have hwn : ws.length ≤ 1000 := by
      have := len_40 hp40
      rw [← hws.1]; omega
    simp only [List.cons_append] at N₁
    have hU0 : ∀ p ∈ U ++ own, p.1 ≠ TL := fun p hp => by
      rcases List.mem_append.mp hp with hp | hp
      · exact hap p hp _ (.head _)
      · exact hown p hp _ (.head _)
    have hU1 : ∀ p ∈ U ++ own, p.1 ≠ s.heap.objs.size + 1 := fun p hp => by
      rcases List.mem_append.mp hp with hp | hp
      · exact hap p hp _ (.tail _ (.head _))
      · exact hown p hp _ (.tail _ (.head _))
    clear F10 NF
    subst hm9
    (repeat' (first | (k_unfold; (try dsimp only)) | ((fail_if_success (with_reducible show wpAny _ _ (eval (PySem.Expr.ListComp _ _ _ _) _) _ _ _)); (fail_if_success (with_reducible show wpAny _ _ (exec (PySem.Stmt.For _ _ _ _ _) _) _ _ _)); (fail_if_success (with_reducible show wpAny _ _ (binaryOp _ (Value.ref _) _) _ _ _)); (fail_if_success (with_reducible show wpAny _ _ (compareOp _ (Value.ref _) _) _ _ _)); (fail_if_success (with_reducible show wpAny _ _ (subscriptTail _ _ (Value.ref _) (Value.ref _)) _ _ _)); walk1) | (dsimp only; (fail_if_success (with_reducible show wpAny _ _ (eval (PySem.Expr.ListComp _ _ _ _) _) _ _ _)); (fail_if_success (with_reducible show wpAny _ _ (exec (PySem.Stmt.For _ _ _ _ _) _) _ _ _)); (fail_if_success (with_reducible show wpAny _ _ (binaryOp _ (Value.ref _) _) _ _ _)); (fail_if_success (with_reducible show wpAny _ _ (compareOp _ (Value.ref _) _) _ _ _)); (fail_if_success (with_reducible show wpAny _ _ (subscriptTail _ _ (Value.ref _) (Value.ref _)) _ _ _)); walk1)))
    refine evalComp (cl := ?cl) ?hcl rfl (by decide) ?_
    case hcl => rfl
    (repeat' (first | (k_unfold; (try dsimp only)) | ((fail_if_success (with_reducible show wpAny _ _ (pyIter _) _ _ _)); walk1) | (dsimp only;  (fail_if_success (with_reducible show wpAny _ _ (pyIter _) _ _ _)); walk1)))
    (with_reducible rename Fr _ _ _ _ => FC); (with_reducible rename News _ _ _ _ => NC)
    obtain ⟨nws, hnws, NG⟩ := hold NC
    refine evalCompList (by decide) rfl rfl rfl FC NG (FC.keep _ _ hll) hllL (by rw [← hL.1]; omega) (fun k ys nw => nw = nws ∧ ys.length = ((left.take k).filter (fun q => q.isPrefixOf p)).length) ⟨rfl, rfl⟩ ?_ ?_
    · rintro k v ys m₁ news₁ own2 g2 C s₁ Qs2 st ⟨hh2, tk2, dr2, rfl⟩ hk hv2 ⟨rfl, hys⟩ F₁ N₁ ho hy hn
      obtain ⟨l2, ws2, c2, q, rfl, hl2, hq, hws2⟩ := hL.2 k v hv2
      have hlp := st _ _ hl
      have hlq := st _ _ hl2
      have X2 := X.keeps st
      have T2' := T.keeps st
      subst hnws
      have hwn2 : ws2.length ≤ 1000 := by
        have := len_40 (List.mem_append_left _ (hl39 q (List.mem_of_getElem? hq)))
        rw [← hws2.1]; omega
      clear FC NC NG
      (repeat' (first | (k_unfold; (try dsimp only)) | ((fail_if_success (with_reducible show wpAny _ _ (eval (PySem.Expr.ListComp _ _ _ _) _) _ _ _)); (fail_if_success (with_reducible show wpAny _ _ (exec (PySem.Stmt.For _ _ _ _ _) _) _ _ _)); (fail_if_success (with_reducible show wpAny _ _ (binaryOp _ (Value.ref _) _) _ _ _)); (fail_if_success (with_reducible show wpAny _ _ (compareOp _ (Value.ref _) _) _ _ _)); (fail_if_success (with_reducible show wpAny _ _ (subscriptTail _ _ (Value.ref _) (Value.ref _)) _ _ _)); walk1) | (dsimp only; (fail_if_success (with_reducible show wpAny _ _ (eval (PySem.Expr.ListComp _ _ _ _) _) _ _ _)); (fail_if_success (with_reducible show wpAny _ _ (exec (PySem.Stmt.For _ _ _ _ _) _) _ _ _)); (fail_if_success (with_reducible show wpAny _ _ (binaryOp _ (Value.ref _) _) _ _ _)); (fail_if_success (with_reducible show wpAny _ _ (compareOp _ (Value.ref _) _) _ _ _)); (fail_if_success (with_reducible show wpAny _ _ (subscriptTail _ _ (Value.ref _) (Value.ref _)) _ _ _)); walk1)))
      all_goals (try k_data)
      (with_reducible rename Fr _ _ _ _ => FS); (with_reducible rename News _ _ _ _ => NS)
      refine tail_slice FS NS (obj_list (FS.keep _ _ hlp)) .none (.int _ _) .none (by simp) (by rw [List.size_toArray, sizeLine_eq]; omega) (by with_unfolding_all rfl) ?_
      intro D9 h9 F' N' fr9
      rw [slicePick_upto', List.toList_toArray] at N'
      clear FS NS
      (repeat' (first | (k_unfold; (try dsimp only)) | ((fail_if_success (with_reducible show wpAny _ _ (eval (PySem.Expr.ListComp _ _ _ _) _) _ _ _)); (fail_if_success (with_reducible show wpAny _ _ (exec (PySem.Stmt.For _ _ _ _ _) _) _ _ _)); (fail_if_success (with_reducible show wpAny _ _ (binaryOp _ (Value.ref _) _) _ _ _)); (fail_if_success (with_reducible show wpAny _ _ (compareOp _ (Value.ref _) _) _ _ _)); (fail_if_success (with_reducible show wpAny _ _ (subscriptTail _ _ (Value.ref _) (Value.ref _)) _ _ _)); walk1) | (dsimp only; (fail_if_success (with_reducible show wpAny _ _ (eval (PySem.Expr.ListComp _ _ _ _) _) _ _ _)); (fail_if_success (with_reducible show wpAny _ _ (exec (PySem.Stmt.For _ _ _ _ _) _) _ _ _)); (fail_if_success (with_reducible show wpAny _ _ (binaryOp _ (Value.ref _) _) _ _ _)); (fail_if_success (with_reducible show wpAny _ _ (compareOp _ (Value.ref _) _) _ _ _)); (fail_if_success (with_reducible show wpAny _ _ (subscriptTail _ _ (Value.ref _) (Value.ref _)) _ _ _)); walk1)))
      all_goals (try k_data)
      (with_reducible rename Fr _ _ _ _ => FS); (with_reducible rename News _ _ _ _ => NS)
      have hwt : StrsV (ws.take ws2.length) (p.take q.length) := by rw [← hws2.1]; exact strsV_take hws
      refine eqStrs (ms := p.take q.length) (ns := q) (vs := ws.take ws2.length) (us := ws2) ?_ hwt ?_ hws2 ?_ ?_ ?_ ?_
      · exact obj_list (NS.get (.head _))
      · exact obj_list (FS.keep _ _ hlq)
      · dsimp only [Around.deeper]; rw [cLine_is]; omega
      · exact fun x hx => strOk_of hp40 x (List.mem_of_mem_take hx)
      · exact strOk_of (List.mem_append_left _ (hl39 q (List.mem_of_getElem? hq)))
      rw [pre_take]
      have hfs := filt_succ (f := fun q => q.isPrefixOf p) hq
      cases hqp : q.isPrefixOf p with
      | true =>
        rw [hqp, if_pos rfl] at hfs
        (repeat' (first | (k_unfold; (try dsimp only)) | ((fail_if_success (with_reducible show wpAny _ _ (eval (PySem.Expr.ListComp _ _ _ _) _) _ _ _)); (fail_if_success (with_reducible show wpAny _ _ (exec (PySem.Stmt.For _ _ _ _ _) _) _ _ _)); (fail_if_success (with_reducible show wpAny _ _ (binaryOp _ (Value.ref _) _) _ _ _)); (fail_if_success (with_reducible show wpAny _ _ (compareOp _ (Value.ref _) _) _ _ _)); (fail_if_success (with_reducible show wpAny _ _ (subscriptTail _ _ (Value.ref _) (Value.ref _)) _ _ _)); walk1) | (dsimp only; (fail_if_success (with_reducible show wpAny _ _ (eval (PySem.Expr.ListComp _ _ _ _) _) _ _ _)); (fail_if_success (with_reducible show wpAny _ _ (exec (PySem.Stmt.For _ _ _ _ _) _) _ _ _)); (fail_if_success (with_reducible show wpAny _ _ (binaryOp _ (Value.ref _) _) _ _ _)); (fail_if_success (with_reducible show wpAny _ _ (compareOp _ (Value.ref _) _) _ _ _)); (fail_if_success (with_reducible show wpAny _ _ (subscriptTail _ _ (Value.ref _) (Value.ref _)) _ _ _)); walk1)))
        all_goals (try k_data)
        (with_reducible rename Fr _ _ _ _ => FR); (with_reducible rename News _ _ _ _ => NR)
        refine hy _ _ _ _ _ _ FR (fun p hp => NR p ?_) (fun q hq => .inl ?_) ⟨rfl, ?_⟩
        · exact .tail _ hp
        · exact List.mem_map_of_mem hq
        · rw [hfs, List.length_append, List.length_append, hys]; rfl
      | false =>
        rw [hqp, if_neg Bool.false_ne_true] at hfs
        (repeat' (first | (k_unfold; (try dsimp only)) | ((fail_if_success (with_reducible show wpAny _ _ (eval (PySem.Expr.ListComp _ _ _ _) _) _ _ _)); (fail_if_success (with_reducible show wpAny _ _ (exec (PySem.Stmt.For _ _ _ _ _) _) _ _ _)); (fail_if_success (with_reducible show wpAny _ _ (binaryOp _ (Value.ref _) _) _ _ _)); (fail_if_success (with_reducible show wpAny _ _ (compareOp _ (Value.ref _) _) _ _ _)); (fail_if_success (with_reducible show wpAny _ _ (subscriptTail _ _ (Value.ref _) (Value.ref _)) _ _ _)); walk1) | (dsimp only; (fail_if_success (with_reducible show wpAny _ _ (eval (PySem.Expr.ListComp _ _ _ _) _) _ _ _)); (fail_if_success (with_reducible show wpAny _ _ (exec (PySem.Stmt.For _ _ _ _ _) _) _ _ _)); (fail_if_success (with_reducible show wpAny _ _ (binaryOp _ (Value.ref _) _) _ _ _)); (fail_if_success (with_reducible show wpAny _ _ (compareOp _ (Value.ref _) _) _ _ _)); (fail_if_success (with_reducible show wpAny _ _ (subscriptTail _ _ (Value.ref _) (Value.ref _)) _ _ _)); walk1)))
        all_goals (try k_data)
        (with_reducible rename Fr _ _ _ _ => FR); (with_reducible rename News _ _ _ _ => NR)
        refine hn _ _ _ _ _ FR (fun p hp => NR p ?_) (fun q hq => .inl ?_) ⟨rfl, ?_⟩
        · exact .tail _ hp
        · exact List.mem_map_of_mem hq
        · rw [hfs, hys]
    · rintro D2 h' tk dr ys c news' hD' F' N' hn2 ⟨rfl, hys⟩
      subst hnws
      clear FC NC NG
      have hb : ((ys.take 1).length : Int) = bit (due left p) := due_len (by rw [hys, ← hL.1, List.take_length])
      (repeat' (first | (k_unfold; (try dsimp only)) | ((fail_if_success (with_reducible show wpAny _ _ (eval (PySem.Expr.ListComp _ _ _ _) _) _ _ _)); (fail_if_success (with_reducible show wpAny _ _ (exec (PySem.Stmt.For _ _ _ _ _) _) _ _ _)); (fail_if_success (with_reducible show wpAny _ _ (binaryOp _ (Value.ref _) _) _ _ _)); (fail_if_success (with_reducible show wpAny _ _ (compareOp _ (Value.ref _) _) _ _ _)); (fail_if_success (with_reducible show wpAny _ _ (subscriptTail _ _ (Value.ref _) (Value.ref _)) _ _ _)); walk1) | (dsimp only; (fail_if_success (with_reducible show wpAny _ _ (eval (PySem.Expr.ListComp _ _ _ _) _) _ _ _)); (fail_if_success (with_reducible show wpAny _ _ (exec (PySem.Stmt.For _ _ _ _ _) _) _ _ _)); (fail_if_success (with_reducible show wpAny _ _ (binaryOp _ (Value.ref _) _) _ _ _)); (fail_if_success (with_reducible show wpAny _ _ (compareOp _ (Value.ref _) _) _ _ _)); (fail_if_success (with_reducible show wpAny _ _ (subscriptTail _ _ (Value.ref _) (Value.ref _)) _ _ _)); walk1)))
      (with_reducible rename Fr _ _ _ _ => FS); (with_reducible rename News _ _ _ _ => NS)
      refine tail_slice FS NS (obj_list (NS.get (.head _))) .none (.int _ _) .none (by simp) (by rw [List.size_toArray, sizeLine_eq, hys]; have := List.length_filter_le (fun q => q.isPrefixOf p) (left.take lvs.length); have := List.length_take_le lvs.length left; have := hL.1; omega) (by with_unfolding_all rfl) ?_
      intro D9 h9 F' N' fr9
      rw [slicePick_upto1, List.toList_toArray] at N'
      clear FS NS
      (repeat' (first | (k_unfold; (try dsimp only)) | ((fail_if_success (with_reducible show wpAny _ _ (eval (PySem.Expr.ListComp _ _ _ _) _) _ _ _)); (fail_if_success (with_reducible show wpAny _ _ (exec (PySem.Stmt.For _ _ _ _ _) _) _ _ _)); (fail_if_success (with_reducible show wpAny _ _ (binaryOp _ (Value.ref _) _) _ _ _)); (fail_if_success (with_reducible show wpAny _ _ (compareOp _ (Value.ref _) _) _ _ _)); (fail_if_success (with_reducible show wpAny _ _ (subscriptTail _ _ (Value.ref _) (Value.ref _)) _ _ _)); walk1) | (dsimp only; (fail_if_success (with_reducible show wpAny _ _ (eval (PySem.Expr.ListComp _ _ _ _) _) _ _ _)); (fail_if_success (with_reducible show wpAny _ _ (exec (PySem.Stmt.For _ _ _ _ _) _) _ _ _)); (fail_if_success (with_reducible show wpAny _ _ (binaryOp _ (Value.ref _) _) _ _ _)); (fail_if_success (with_reducible show wpAny _ _ (compareOp _ (Value.ref _) _) _ _ _)); (fail_if_success (with_reducible show wpAny _ _ (subscriptTail _ _ (Value.ref _) (Value.ref _)) _ _ _)); walk1)))
      (with_reducible rename Fr _ _ _ _ => FS); (with_reducible rename News _ _ _ _ => NS)
      refine mulL FS NS (by k_mem) ?_
      intro RD h9 F' N' lRD
      clear FS NS
      (repeat' (first | (k_unfold; (try dsimp only)) | ((fail_if_success (with_reducible show wpAny _ _ (eval (PySem.Expr.ListComp _ _ _ _) _) _ _ _)); (fail_if_success (with_reducible show wpAny _ _ (exec (PySem.Stmt.For _ _ _ _ _) _) _ _ _)); (fail_if_success (with_reducible show wpAny _ _ (binaryOp _ (Value.ref _) _) _ _ _)); (fail_if_success (with_reducible show wpAny _ _ (compareOp _ (Value.ref _) _) _ _ _)); (fail_if_success (with_reducible show wpAny _ _ (subscriptTail _ _ (Value.ref _) (Value.ref _)) _ _ _)); walk1) | (dsimp only; (fail_if_success (with_reducible show wpAny _ _ (eval (PySem.Expr.ListComp _ _ _ _) _) _ _ _)); (fail_if_success (with_reducible show wpAny _ _ (exec (PySem.Stmt.For _ _ _ _ _) _) _ _ _)); (fail_if_success (with_reducible show wpAny _ _ (binaryOp _ (Value.ref _) _) _ _ _)); (fail_if_success (with_reducible show wpAny _ _ (compareOp _ (Value.ref _) _) _ _ _)); (fail_if_success (with_reducible show wpAny _ _ (subscriptTail _ _ (Value.ref _) (Value.ref _)) _ _ _)); walk1)))
      all_goals (try k_data)
      (with_reducible rename Fr _ _ _ _ => FS); (with_reducible rename News _ _ _ _ => NS)
      have htl : ts.length ≤ 1000 := by rw [hrows.1, List.length_take, List.length_append, List.length_reverse]; omega
      refine appL FS NS (by k_mem) htl ?_
      intro h10 c' FR NN
      have NR := due_pick NN lRD lTL hU0
      have htn := take_succ hp
      clear FS NS NN
      (repeat' (first | (k_unfold; (try dsimp only)) | walk1 | (dsimp only; walk1)))
      all_goals (try k_data)
      refine (hQ _ _ _ _ ((_, _) :: (_, _) :: (_, _) :: U) (by assumption) NR (fun q hq => ?_) ⟨rfl, _, _, _, _, rfl, ⟨_, by assumption⟩, ?_, by rw [htn]; exact rows_snoc hrows⟩).1
      · rcases List.mem_cons.mp hq with rfl | hq
        · exact .inl (.head _)
        · rcases List.mem_cons.mp hq with rfl | hq
          · exact .inl (.tail _ (.head _))
          · rcases List.mem_cons.mp hq with rfl | hq
            · exact .inr (.inr fun r hr => Ne.symm (Nat.ne_of_lt (lRD r (.tail _ (.tail _ (.tail _ (.tail _ (.tail _ (List.mem_append_right _ hr)))))))))
            · exact .inl (.tail _ (.tail _ (List.mem_map_of_mem hq)))
      · exact apart_cons hap (Ne.symm (Nat.ne_of_lt (lRD (TL, _) (.tail _ (.tail _ (.tail _ (.head _))))))) (Ne.symm (Nat.ne_of_lt (lRD (s.heap.objs.size + 1, _) (.tail _ (.tail _ (.tail _ (.tail _ (.head _))))))))
  · intro h' tk d m' news' F' N' hJ
    obtain ⟨rfl, p1, ts, ct, U, rfl, _, _, hrows⟩ := hJ
    rw [List.take_of_length_le (Nat.le_of_eq hAA.1)] at hrows
    subst hm9
    clear F10 NF
    (repeat' (first | (k_unfold; (try dsimp only)) | walk1 | (dsimp only; walk1)))
    all_goals (try k_data)
    (with_reducible rename Fr _ _ _ _ => FR); (with_reducible rename News _ _ _ _ => NR)
    refine hR _ ts ct _ _ _ FR.keep (NR.fresh (.head _)) (NR.get (.head _)) ⟨hrows.1, fun j p hj => ?_⟩
    obtain ⟨R', c', t1, t2, t3, a, b⟩ := hrows.2 j p hj
    exact ⟨R', c', t1, t2, t3, a, NR.get (.tail _ (.tail _ b))⟩
end
end Mine
end
section
open PySem PySem.W PySem.Calls PyProof.Rows PySem.SeqAt
set_option maxRecDepth 100000
namespace Mine
section
variable {prog : Program} {w : World} {A : Around} {E : Value → Shared → Prop} {s : Shared} {g : Heap} {L l : Addr} {m : Str → Option Value} {news : List (Addr × Obj)} {Q : Value → Shared → Prop}
theorem itemN {value slice : PySem.Expr} {o : Obj} {items : Array Value} {c : Nat} {i : Int} {u : Tok} {v : Value} (N : News g L s.heap news) (hm : (l, o) ∈ news) (ho : o = W.listOf items c) (h0 : 0 ≤ i) (h3 : i < 1000) (hx : items[i.toNat]? = some v) (h : Q v s)
    (hs : subscripted slice false (.ref l) (.int i u) = operate [.ref l, .int i u] (getItem (.ref l) (.int i u)) := by with_unfolding_all rfl) :
    wpAny (model prog w) A (subscriptTail value slice (.ref l) (.int i u)) Q E s := by
  subst ho
  have hl : s.heap.IsList l items := ⟨_, N.get hm, rfl, _, rfl⟩
  exact tail_any hl.typeIs slot_list_getitem.lookup (wpAny_getItem_list hl h0 (by omega) hx h) hs
theorem itemB {value slice : PySem.Expr} {vs : List Value} {c : Nat} {i : Int} {u : Tok} {v : Value} (F : Fr g L s.heap m) (hg : g.get? l = some (listObj vs c)) (h0 : 0 ≤ i) (h3 : i < 1000) (hx : vs[i.toNat]? = some v) (h : Q v s)
    (hs : subscripted slice false (.ref l) (.int i u) = operate [.ref l, .int i u] (getItem (.ref l) (.int i u)) := by with_unfolding_all rfl) :
    wpAny (model prog w) A (subscriptTail value slice (.ref l) (.int i u)) Q E s := by
  have hl : s.heap.IsList l vs.toArray := obj_list (F.keep _ _ hg)
  exact tail_any hl.typeIs slot_list_getitem.lookup (wpAny_getItem_list hl h0 (by omega) (by simpa using hx) h) hs
theorem listSub_bool {M : Model} {b : Bool} {k : Int} {Q : Option Int → Shared → Prop} {s : Shared} (hk : k = if b = true then 1 else 0) (h : Q (some k) s) : wpAny M A (Builtin.List.listSubscript? (.bool b)) Q E s := by
  subst hk
  unfold Builtin.List.listSubscript?
  refine wpAny_bind (wpAny_specialOf (T := "bool") (PySem.typeIs_bool s b) F.slot_bool_index.lookup ?_)
  show wpAny M A (asIndex (.bool b) >>= _) Q E s
  cases b
  · refine wpAny_bind (wpAny_of_eq (a := 0) rfl ?_)
    show wpAny M A (if (!Builtin.List.listFitsIndex 0) = true then _ else _) Q E s
    rw [if_neg (by decide)]
    exact wpAny_pure h
  · refine wpAny_bind (wpAny_of_eq (a := 1) rfl ?_)
    show wpAny M A (if (!Builtin.List.listFitsIndex 1) = true then _ else _) Q E s
    rw [if_neg (by decide)]
    exact wpAny_pure h
theorem getItem_bool {items : Array Value} {b : Bool} {k : Nat} {x : Value} (hk : k = if b = true then 1 else 0) (hl : s.heap.IsList l items) (hx : items[k]? = some x) (h : Q x s) : wpAny (model prog w) A (getItem (.ref l) (.bool b)) Q E s := by
  obtain ⟨o, ho, hc, ne, hd⟩ := id hl
  unfold getItem
  try with_reducible refine wpAny_holding ?_
  first | refine wpAny_bind (wpAny_pure ?_) | skip
  refine wpAny_bind (wpAny_sequenceKey hl.typeIs (by decide) ?_)
  refine wpAny_bind (wpAny_callSpecial?_slot (name := Str.ofString "__getitem__") hl.typeIs slot_list_getitem
    (wpAny_call_entry slot_list_getitem hl.typeIs entry_list_getitem ?_ (args_list_getitem _ _)))
  show wpAny _ _ (Builtin.List.listSubscript? (.bool b) >>= _) _ _ s
  refine wpAny_bind (listSub_bool (k := (k : Int)) (by rw [hk]; cases b <;> rfl) ?_)
  show wpAny _ _ ((seqItemAt l k >>= fun r => pure (r.map (k, ·))) >>= _) _ _ s
  refine wpAny_bind (wpAny_bind (wpAny_seqItemAt ho hd (wpAny_pure ?_)))
  rw [hx]
  first
    | exact wpAny_bind (wpAny_pure (wpAny_pure ⟨x, rfl, wpAny_pure h⟩))
    | exact wpAny_pure ⟨x, rfl, wpAny_pure h⟩
theorem itemBool {value slice : PySem.Expr} {o : Obj} {items : Array Value} {c : Nat} {b : Bool} {k : Nat} {v : Value} (hk : k = if b = true then 1 else 0) (N : News g L s.heap news) (hm : (l, o) ∈ news) (ho : o = W.listOf items c) (hx : items[k]? = some v) (h : Q v s)
    (hs : subscripted slice false (.ref l) (.bool b) = operate [.ref l, .bool b] (getItem (.ref l) (.bool b)) := by with_unfolding_all rfl) :
    wpAny (model prog w) A (subscriptTail value slice (.ref l) (.bool b)) Q E s := by
  subst ho
  have hl : s.heap.IsList l items := ⟨_, N.get hm, rfl, _, rfl⟩
  exact tail_any hl.typeIs slot_list_getitem.lookup (getItem_bool hk hl hx h) hs
theorem itemT {value slice : PySem.Expr} {o : Obj} {x y : Value} {c : Nat} {b : Bool} (N : News g L s.heap news) (hm : (l, o) ∈ news) (ho : o = W.listOf #[x, y] c) (hb : b = true) (h : Q y s)
    (hs : subscripted slice false (.ref l) (.bool b) = operate [.ref l, .bool b] (getItem (.ref l) (.bool b)) := by with_unfolding_all rfl) :
    wpAny (model prog w) A (subscriptTail value slice (.ref l) (.bool b)) Q E s :=
  itemBool (k := 1) (by rw [hb]; rfl) N hm ho rfl h hs
theorem itemF {value slice : PySem.Expr} {o : Obj} {x y : Value} {c : Nat} {b : Bool} (N : News g L s.heap news) (hm : (l, o) ∈ news) (ho : o = W.listOf #[x, y] c) (hb : b = false) (h : Q x s)
    (hs : subscripted slice false (.ref l) (.bool b) = operate [.ref l, .bool b] (getItem (.ref l) (.bool b)) := by with_unfolding_all rfl) :
    wpAny (model prog w) A (subscriptTail value slice (.ref l) (.bool b)) Q E s :=
  itemBool (k := 0) (by rw [hb]; rfl) N hm ho rfl h hs
end
end Mine
end
section
open PySem PySem.W PySem.Calls PyProof.Rows PySem.SeqAt
set_option maxRecDepth 100000
namespace Mine
theorem rds_cons {w : World} {left d0 d1 d2 : List (List Str)} {n0 n1 n2 : Nat} {x0 x1 x2 D : Addr} {o : Obj} {T U : List (Addr × Obj)} (h : Rds3 w left d0 d1 d2 n0 n1 n2 x0 x1 x2 T U) (hD : ∀ p ∈ T, p.1 ≠ D) :
    ∃ T', Rds3 w left d0 d1 d2 n0 n1 n2 x0 x1 x2 T' ((D, o) :: U) ∧ ∀ p ∈ T', p = (D, o) ∨ p ∈ T := by
  obtain ⟨l0, l1, l2, ig0, ig1, ig2, s0, s1, s2, rfl, R0, R1, R2, K0, K1, K2, hnd⟩ := h
  refine ⟨l0 ++ (l1 ++ (l2 ++ (D, o) :: U)), ⟨l0, l1, l2, ig0, ig1, ig2, s0, s1, s2, rfl, R0, R1, R2, K0, K1, K2, ?_⟩, fun p hp => ?_⟩
  · have hp : (l0 ++ (l1 ++ (l2 ++ (D, o) :: U))).Perm ((D, o) :: (l0 ++ (l1 ++ (l2 ++ U)))) := by
      have := List.perm_middle (a := (D, o)) (l₁ := l0 ++ (l1 ++ l2)) (l₂ := U)
      simpa only [List.append_assoc] using this
    refine (hp.map (·.1)).nodup_iff.mpr ?_
    rw [List.map_cons, List.nodup_cons]
    refine ⟨fun hm => ?_, hnd⟩
    obtain ⟨q, hq, e⟩ := List.mem_map.mp hm
    exact hD q hq e
  · simp only [List.mem_append, List.mem_cons] at hp ⊢
    rcases hp with h | h | h | h | h
    · exact .inr (.inl h)
    · exact .inr (.inr (.inl h))
    · exact .inr (.inr (.inr (.inl h)))
    · exact .inl h
    · exact .inr (.inr (.inr (.inr h)))
theorem known_less {left dn dm : List (List Str)} {sn : Str → Option Int} (K : Known left dn sn) (h : ∀ q ∈ dm, q ∈ dn) : Known left dm sn := ⟨K.1, fun p hp => K.2 p (h p hp)⟩
theorem rds_less {w : World} {left d0 d1 d2 e0 e1 e2 : List (List Str)} {n0 n1 n2 : Nat} {x0 x1 x2 : Addr} {T U : List (Addr × Obj)} (h : Rds3 w left d0 d1 d2 n0 n1 n2 x0 x1 x2 T U) (h0 : ∀ q ∈ e0, q ∈ d0) (h1 : ∀ q ∈ e1, q ∈ d1) (h2 : ∀ q ∈ e2, q ∈ d2) : Rds3 w left e0 e1 e2 n0 n1 n2 x0 x1 x2 T U := by
  obtain ⟨l0, l1, l2, ig0, ig1, ig2, s0, s1, s2, rfl, R0, R1, R2, K0, K1, K2, hnd⟩ := h
  exact ⟨l0, l1, l2, ig0, ig1, ig2, s0, s1, s2, rfl, R0, R1, R2, known_less K0 h0, known_less K1 h1, known_less K2 h2, hnd⟩
theorem rds_rest {w : World} {left d0 d1 d2 : List (List Str)} {n0 n1 n2 : Nat} {x0 x1 x2 : Addr} {T U : List (Addr × Obj)} (h : Rds3 w left d0 d1 d2 n0 n1 n2 x0 x1 x2 T U) : ∀ q ∈ U, q ∈ T := by
  obtain ⟨l0, l1, l2, ig0, ig1, ig2, s0, s1, s2, rfl, _⟩ := h
  exact fun q hq => List.mem_append_right _ (List.mem_append_right _ (List.mem_append_right _ hq))
theorem news_dup {g h : Heap} {L : Addr} {x : Addr × Obj} {l : List (Addr × Obj)} (N : News g L h l) (hx : x ∈ l) : News g L h (x :: l) := fun p hp => by
  rcases List.mem_cons.mp hp with rfl | hp
  · exact N _ hx
  · exact N _ hp
theorem open3 {g h : Heap} {L : Addr} {c1 c2 c3 : Addr} {a1 a2 a3 : Obj} {T : List (Addr × Obj)} {P : Obj → Prop} (N : News g L h ((c1, a1) :: (c2, a2) :: (c3, a3) :: T)) (hI : P a3) : ∃ b3, P b3 ∧ News g L h ((c1, a1) :: (c2, a2) :: (c3, b3) :: T) := ⟨a3, hI, N⟩
theorem three_of {ys : List Value} {x : Str} (h : StrsV ys (List.replicate 3 x)) : ∃ t1 t2 t3, ys = [.str x t1, .str x t2, .str x t3] := by
  have h1 := strsAre_of h
  cases h1 with | cons _ t1 h1 => cases h1 with | cons _ t2 h1 => cases h1 with | cons _ t3 h1 => cases h1; exact ⟨t1, t2, t3, rfl⟩
theorem rows_last {left ps : List (List Str)} {p : List Str} {ts : List Value} {U : List (Addr × Obj)} {R : Addr} {o : Obj} {x : Str} {ys : List Value} {c : Nat} (h : Rows left ps ts U) (hx : x = btx (due left p)) (hy : StrsV ys (List.replicate 3 x)) (ho : o = listObj ys c) : Rows left (ps ++ [p]) (ts ++ [.ref R]) ((R, o) :: U) := by
  subst hx; subst ho
  obtain ⟨t1, t2, t3, rfl⟩ := three_of hy
  exact rows_snoc h
theorem keys_ne {T1 T2 own : List (Addr × Obj)} {c : Addr} (hk : T2.map (·.1) = T1.map (·.1)) (h : ∀ p ∈ T1 ++ own, p.1 ≠ c) : ∀ p ∈ T2 ++ own, p.1 ≠ c := by
  intro p hp
  rcases List.mem_append.mp hp with hp | hp
  · have : p.1 ∈ T1.map (·.1) := by rw [← hk]; exact List.mem_map_of_mem hp
    obtain ⟨q, hq, e⟩ := List.mem_map.mp this
    rw [← e]; exact h q (List.mem_append_left _ hq)
  · exact h p (List.mem_append_right _ hp)
theorem more_app {T2 T3 own : List (Addr × Obj)} {x : Addr × Obj} (h : ∀ p ∈ T3, p = x ∨ p ∈ T2) : ∀ p ∈ T3 ++ own, p = x ∨ p ∈ T2 ++ own := by
  intro p hp
  rcases List.mem_append.mp hp with hp | hp
  · rcases h p hp with e | hp
    · exact .inl e
    · exact .inr (List.mem_append_left _ hp)
  · exact .inr (List.mem_append_right _ hp)
theorem off8 {D c1 c2 c3 c4 c5 c6 c7 c8 : Addr} {a1 a2 a3 a4 a5 a6 a7 a8 : Obj} {T : List (Addr × Obj)} (hnD : ∀ p ∈ (c1, a1) :: (c2, a2) :: (c3, a3) :: (c4, a4) :: (c5, a5) :: (c6, a6) :: (c7, a7) :: (c8, a8) :: T, p.1 ≠ D) : ∀ c ∈ [c1, c2, c3, c4, c5, c6, c7, c8], D ≠ c := by
  intro c hc
  simp only [List.mem_cons, List.not_mem_nil, or_false] at hc
  rcases hc with rfl | rfl | rfl | rfl | rfl | rfl | rfl | rfl
  · exact (hnD (_, _) (.head _)).symm
  · exact (hnD (_, _) (.tail _ (.head _))).symm
  · exact (hnD (_, _) (.tail _ (.tail _ (.head _)))).symm
  · exact (hnD (_, _) (.tail _ (.tail _ (.tail _ (.head _))))).symm
  · exact (hnD (_, _) (.tail _ (.tail _ (.tail _ (.tail _ (.head _)))))).symm
  · exact (hnD (_, _) (.tail _ (.tail _ (.tail _ (.tail _ (.tail _ (.head _))))))).symm
  · exact (hnD (_, _) (.tail _ (.tail _ (.tail _ (.tail _ (.tail _ (.tail _ (.head _)))))))).symm
  · exact (hnD (_, _) (.tail _ (.tail _ (.tail _ (.tail _ (.tail _ (.tail _ (.tail _ (.head _))))))))).symm
-- one told row more
theorem told_pick {g h : Heap} {L D TL c2 c3 c4 c5 c6 c7 c8 : Addr} {oD oT oT0 a2 a3 a4 a5 a6 a7 a8 : Obj} {V V' : List (Addr × Obj)} (NN : ∀ news', (∀ p ∈ news', p ∈ (D, oD) :: (TL, oT0) :: (c2, a2) :: (c3, a3) :: (c4, a4) :: (c5, a5) :: (c6, a6) :: (c7, a7) :: (c8, a8) :: V ∧ p.1 ≠ TL) → News g L h ((TL, oT) :: news'))
    (hD : D ≠ TL) (h2 : c2 ≠ TL) (h3 : c3 ≠ TL) (h4 : c4 ≠ TL) (h5 : c5 ≠ TL) (h6 : c6 ≠ TL) (h7 : c7 ≠ TL) (h8 : c8 ≠ TL) (hV : ∀ p ∈ V, p.1 ≠ TL) (hV' : ∀ p ∈ V', p = (D, oD) ∨ p ∈ V) :
    News g L h ((TL, oT) :: (c2, a2) :: (c3, a3) :: (c4, a4) :: (c5, a5) :: (c6, a6) :: (c7, a7) :: (c8, a8) :: V') := by
  refine NN _ fun p hp => ?_
  simp only [List.mem_cons] at hp ⊢
  rcases hp with rfl | rfl | rfl | rfl | rfl | rfl | rfl | hp
  · exact ⟨by simp, h2⟩
  · exact ⟨by simp, h3⟩
  · exact ⟨by simp, h4⟩
  · exact ⟨by simp, h5⟩
  · exact ⟨by simp, h6⟩
  · exact ⟨by simp, h7⟩
  · exact ⟨by simp, h8⟩
  · rcases hV' p hp with rfl | hp
    · exact ⟨.inl rfl, hD⟩
    · exact ⟨by simp [hp], hV p hp⟩
theorem apart8 {T1 T2 T3 : List (Addr × Obj)} {D : Addr} {o : Obj} {cs : List Addr} (h : Apart T1 cs) (hk : T2.map (·.1) = T1.map (·.1)) (h3 : ∀ p ∈ T3, p = (D, o) ∨ p ∈ T2) (hD : ∀ c ∈ cs, D ≠ c) : Apart T3 cs := by
  intro p hp c hc
  rcases h3 p hp with rfl | hp
  · exact hD c hc
  · have : p.1 ∈ T1.map (·.1) := by rw [← hk]; exact List.mem_map_of_mem hp
    obtain ⟨q, hq, e⟩ := List.mem_map.mp this
    rw [← e]; exact h q hq c hc
theorem fresh8 {hp : Heap} {c1 c2 c3 c4 c5 c6 c7 c8 D : Addr} {a1 a2 a3 a4 a5 a6 a7 a8 b1 b2 b3 b4 b5 b6 b7 b8 o : Obj} {T1 T2 T3 own : List (Addr × Obj)} (hk : T2.map (·.1) = T1.map (·.1)) (h3 : ∀ p ∈ T3, p = (D, o) ∨ p ∈ T2) (hD : ∀ q ∈ own, D ≠ q.1) :
    ∀ p ∈ (c1, b1) :: (c2, b2) :: (c3, b3) :: (c4, b4) :: (c5, b5) :: (c6, b6) :: (c7, b7) :: (c8, b8) :: T3, p.1 ∈ ((c1, a1) :: (c2, a2) :: (c3, a3) :: (c4, a4) :: (c5, a5) :: (c6, a6) :: (c7, a7) :: (c8, a8) :: T1).map (·.1) ∨ hp.get? p.1 = none ∨ ∀ q ∈ own, p.1 ≠ q.1 := by
  intro p hm
  simp only [List.mem_cons] at hm
  rcases hm with rfl | rfl | rfl | rfl | rfl | rfl | rfl | rfl | hm
  all_goals try (refine .inl ?_; simp; done)
  rcases h3 p hm with rfl | hm
  · exact .inr (.inr hD)
  · refine .inl ?_
    have : p.1 ∈ T1.map (·.1) := by rw [← hk]; exact List.mem_map_of_mem hm
    simp only [List.map_cons, List.mem_cons]
    exact .inr (.inr (.inr (.inr (.inr (.inr (.inr (.inr this)))))))
end Mine
end
section
open PySem PySem.W PySem.Calls PyProof.Rows PySem.SeqAt
set_option maxRecDepth 100000
namespace Mine
def pick3 {α : Type} (k : Nat) (a b c : α) : α := if k = 0 then a else if k = 1 then b else c
theorem pick3_all {α : Type} {k : Nat} {a : α} : pick3 k a a a = a := by
  unfold pick3
  by_cases h : k = 0
  · rw [if_pos h]; try rw [if_pos h]
    try rw [if_pos h]
  · simp only [if_neg h]
    by_cases h1 : k = 1
    · simp only [if_pos h1]
    · simp only [if_neg h1]
theorem get3 {k : Nat} {a b c : Value} (hk : k < 3) : (#[a, b, c])[((k : Nat) : Int).toNat]? = some (pick3 k a b c) := by
  rcases (by omega : k = 0 ∨ k = 1 ∨ k = 2) with rfl | rfl | rfl <;> rfl
theorem pickR {k : Nat} {a b c : Addr} : pick3 k (Value.ref a) (.ref b) (.ref c) = .ref (pick3 k a b c) := by
  unfold pick3
  by_cases h : k = 0
  · rw [if_pos h]; try rw [if_pos h]
    try rw [if_pos h]
  · simp only [if_neg h]
    by_cases h1 : k = 1
    · simp only [if_pos h1]
    · simp only [if_neg h1]
theorem pickS {k : Nat} {a b c : Str} {t u v : Tok} : pick3 k (Value.str a t) (.str b u) (.str c v) = .str (pick3 k a b c) (pick3 k t u v) := by
  unfold pick3
  by_cases h : k = 0
  · rw [if_pos h]; try rw [if_pos h]
    try rw [if_pos h]
  · simp only [if_neg h]
    by_cases h1 : k = 1
    · simp only [if_pos h1]
    · simp only [if_neg h1]
section
variable {prog : Program} {w : World} {A : Around} {E : Value → Shared → Prop} {s : Shared} {g : Heap} {L l : Addr} {m : Str → Option Value} {news : List (Addr × Obj)} {Q : Value → Shared → Prop} {value slice : PySem.Expr} {o : Obj} {cnt k : Nat} {u : Tok}
theorem item3r {a b c : Addr} (N : News g L s.heap news) (hm : (l, o) ∈ news) (ho : o = W.listOf #[.ref a, .ref b, .ref c] cnt) (hk : k < 3) (h : Q (.ref (pick3 k a b c)) s)
    (hs : subscripted slice false (.ref l) (.int (k : Int) u) = operate [.ref l, .int (k : Int) u] (getItem (.ref l) (.int (k : Int) u)) := by with_unfolding_all rfl) : wpAny (model prog w) A (subscriptTail value slice (.ref l) (.int (k : Int) u)) Q E s :=
  itemN N hm ho (Int.natCast_nonneg k) (by omega) (get3 hk) (by rw [pickR]; exact h) hs
theorem item3s {a b c : Str} {t v x : Tok} (N : News g L s.heap news) (hm : (l, o) ∈ news) (ho : o = W.listOf #[.str a t, .str b v, .str c x] cnt) (hk : k < 3) (h : Q (.str (pick3 k a b c) (pick3 k t v x)) s)
    (hs : subscripted slice false (.ref l) (.int (k : Int) u) = operate [.ref l, .int (k : Int) u] (getItem (.ref l) (.int (k : Int) u)) := by with_unfolding_all rfl) : wpAny (model prog w) A (subscriptTail value slice (.ref l) (.int (k : Int) u)) Q E s :=
  itemN N hm ho (Int.natCast_nonneg k) (by omega) (get3 hk) (by rw [pickS]; exact h) hs
theorem item3x {a : Str} {t v x : Tok} (N : News g L s.heap news) (hm : (l, o) ∈ news) (ho : o = W.listOf #[.str a t, .str a v, .str a x] cnt) (hk : k < 3) (h : Q (.str a (pick3 k t v x)) s)
    (hs : subscripted slice false (.ref l) (.int (k : Int) u) = operate [.ref l, .int (k : Int) u] (getItem (.ref l) (.int (k : Int) u)) := by with_unfolding_all rfl) : wpAny (model prog w) A (subscriptTail value slice (.ref l) (.int (k : Int) u)) Q E s :=
  item3s N hm ho hk (by rw [pick3_all]; exact h) hs
theorem item2o {y : Str} {t : Tok} {b : Bool} (N : News g L s.heap news) (hm : (l, o) ∈ news) (ho : o = W.listOf #[.none, .str y t] cnt) (h : Q (optV (if b = true then some y else none) t) s)
    (hs : subscripted slice false (.ref l) (.bool b) = operate [.ref l, .bool b] (getItem (.ref l) (.bool b)) := by with_unfolding_all rfl) : wpAny (model prog w) A (subscriptTail value slice (.ref l) (.bool b)) Q E s := by
  cases b
  · exact itemF N hm ho rfl h hs
  · exact itemT N hm ho rfl h hs
end
theorem opt_len {b : Bool} {y : Str} {n : Nat} (h : y.length ≤ n) : ∀ g, (if b = true then some y else none) = some g → g.length ≤ n := fun g e => by
  cases b
  · cases e
  · injection e with e; rw [← e]; exact h
-- one row's turn: which readers have been asked
def Turn (w : World) (left dn : List (List Str)) (p : List Str) (k N : Nat) (x0 x1 x2 : Addr) (T U : List (Addr × Obj)) : Prop :=
  ∃ d0 d1 d2 n0 n1 n2, Asked3 k dn p d0 d1 d2 ∧ n0 ≤ N + k ∧ n1 ≤ N + k ∧ n2 ≤ N + k ∧ Rds3 w left d0 d1 d2 n0 n1 n2 x0 x1 x2 T U
def Told (w : World) (left dn : List (List Str)) (N : Nat) (x0 x1 x2 : Addr) (T U : List (Addr × Obj)) : Prop := ∃ n0 n1 n2, n0 ≤ N ∧ n1 ≤ N ∧ n2 ≤ N ∧ Rds3 w left dn dn dn n0 n1 n2 x0 x1 x2 T U
section
variable {w : World} {dp un : Nat} {fr : Option (List Env)} {gd : Option (List Code)} {s : Shared} {loose : List Str} {mean : ExcName → Option Value} {mg mb : Str → Option Value} {Q E : Value → Shared → Prop} {g : Heap} {C : Addr} {m : Str → Option Value} {left dn : List (List Str)} {k N0 : Nat} {x0 x1 x2 : Addr} {T1 U pre post : List (Addr × Obj)} {f : Option Str} {tf t : Tok} {p : List Str}
theorem turn_start (h : Told w left dn N0 x0 x1 x2 T1 U) : Turn w left dn p 0 N0 x0 x1 x2 T1 U := by
  obtain ⟨n0, n1, n2, a, b, c, r⟩ := h
  exact ⟨dn, dn, dn, n0, n1, n2, ⟨rfl, rfl, rfl⟩, a, b, c, r⟩
theorem turn_end (h : Turn w left dn p 3 N0 x0 x1 x2 T1 U) : Told w left (dn ++ [p]) (N0 + 4) x0 x1 x2 T1 U := by
  obtain ⟨d0, d1, d2, n0, n1, n2, ⟨rfl, rfl, rfl⟩, a, b, c, r⟩ := h
  rw [if_pos (by decide), if_pos (by decide), if_pos (by decide)] at r
  exact ⟨n0, n1, n2, Nat.le_succ_of_le a, Nat.le_succ_of_le b, Nat.le_succ_of_le c, r⟩
theorem told_cons {D : Addr} {o : Obj} (h : Told w left dn N0 x0 x1 x2 T1 U) (hD : ∀ q ∈ T1, q.1 ≠ D) : ∃ T', Told w left dn N0 x0 x1 x2 T' ((D, o) :: U) ∧ ∀ q ∈ T', q = (D, o) ∨ q ∈ T1 := by
  obtain ⟨n0, n1, n2, a, b, c, r⟩ := h
  obtain ⟨T', r', h'⟩ := rds_cons (o := o) r hD
  exact ⟨T', ⟨n0, n1, n2, a, b, c, r'⟩, h'⟩
theorem told_less {dm : List (List Str)} (h : Told w left dn N0 x0 x1 x2 T1 U) (hd : ∀ q ∈ dm, q ∈ dn) : Told w left dm N0 x0 x1 x2 T1 U := by
  obtain ⟨n0, n1, n2, a, b, c, r⟩ := h
  exact ⟨n0, n1, n2, a, b, c, rds_less r hd hd hd⟩
theorem told_rest (h : Told w left dn N0 x0 x1 x2 T1 U) : ∀ q ∈ U, q ∈ T1 := by
  obtain ⟨n0, n1, n2, a, b, c, r⟩ := h
  exact rds_rest r
theorem turn_rest (h : Turn w left dn p k N0 x0 x1 x2 T1 U) : ∀ q ∈ U, q ∈ T1 := by
  obtain ⟨d0, d1, d2, n0, n1, n2, _, a, b, c, r⟩ := h
  exact rds_rest r
theorem methk {pl : Sem Bool} {Q : Value × List Value → Shared → Prop} (hk : k < 3) (F : Fr g C s.heap m) (N : News g C s.heap (pre ++ (T1 ++ post))) (X : (hd.heap_39 w.params).In g) (hT : Turn w left dn p k N0 x0 x1 x2 T1 U) (h : Q (.ref 156, [.ref (pick3 k x0 x1 x2)]) s) :
    wpAny (model PySem.Challenge.rw_il0011_01.row.prog w) (Ar dp un fr gd) (getMethod (.ref (pick3 k x0 x1 x2)) (Str.ofString "names") pl) Q E s := by
  obtain ⟨d0, d1, d2, n0, n1, n2, _, _, _, _, r⟩ := hT
  rcases (by omega : k = 0 ∨ k = 1 ∨ k = 2) with rfl | rfl | rfl
  · exact meth0 F N X r h
  · exact meth1 F N X r h
  · exact meth2 F N X r h
theorem askk (hk : k < 3) (F : Fr g C s.heap m) (N : News g C s.heap (pre ++ (T1 ++ post))) (X : (hd.heap_39 w.params).In g) (T : Top hd.view_39 loose mean mg mb g) (H : AskIn w dp un left p f) (hT : Turn w left dn p k N0 x0 x1 x2 T1 U) (hap : ∀ q ∈ pre ++ post, ∀ r ∈ T1, q.1 ≠ r.1) (hN : N0 + 2 < 1000) (hdn : ∀ q ∈ dn, q ∈ names40)
    (h0 : k = 0 → ∀ sn, Known left dn sn → says sn (left.map dot) [] f (dot p) = bit (due left p))
    (h1 : k = 1 → ∀ sn, Known left dn sn → says sn [] (left.map sl) f (dot p) = bit (due left p))
    (h2 : k = 2 → ∀ sn, Known left dn sn → says sn ((pickE left).map dot) ((pickO left).map sl) f (dot p) = bit (due left p))
    (h : ∀ u h' tk d T2, Fr g C h' m → News g C h' (pre ++ (T2 ++ post)) → Turn w left dn p (k + 1) N0 x0 x1 x2 T2 U → T2.map (·.1) = T1.map (·.1) → Q (.int (bit (due left p)) u) { s with heap := h', toks := tk, drawn := d }) :
    wpAny (model PySem.Challenge.rw_il0011_01.row.prog w) (Ar dp un fr gd) (call (.ref 156) [.ref (pick3 k x0 x1 x2), optV f tf, .str (dot p) t]) Q E s := by
  obtain ⟨d0, d1, d2, n0, n1, n2, ⟨e0, e1, e2⟩, a, b, c, r⟩ := hT
  rcases (by omega : k = 0 ∨ k = 1 ∨ k = 2) with rfl | rfl | rfl
  · subst e0; subst e1; subst e2
    exact ask0 F N X T H r hap (by omega) hdn (h0 rfl) fun u h' tk d T2 F' N' r' hk => h u h' tk d T2 F' N' ⟨_, _, _, _, _, _, ⟨rfl, rfl, rfl⟩, Nat.succ_le_succ a, Nat.le_succ_of_le b, Nat.le_succ_of_le c, r'⟩ hk
  · subst e0; subst e1; subst e2
    exact ask1 F N X T H r hap (by omega) hdn (h1 rfl) fun u h' tk d T2 F' N' r' hk => h u h' tk d T2 F' N' ⟨_, _, _, _, _, _, ⟨rfl, rfl, rfl⟩, Nat.le_succ_of_le a, Nat.succ_le_succ b, Nat.le_succ_of_le c, r'⟩ hk
  · subst e0; subst e1; subst e2
    exact ask2 F N X T H r hap (by omega) hdn (h2 rfl) fun u h' tk d T2 F' N' r' hk => h u h' tk d T2 F' N' ⟨_, _, _, _, _, _, ⟨rfl, rfl, rfl⟩, Nat.le_succ_of_le a, Nat.le_succ_of_le b, Nat.succ_le_succ c, r'⟩ hk
end
end Mine
namespace Mine
def Cell (o : Obj) : Prop := ∃ v, o.data = .cell v
abbrev led8 (n TL RL : Addr) (ts : List Value) (ct : Nat) (x0 x1 x2 : Addr) (p1 p2 oT oR p5 o6 : Obj) (T : List (Addr × Obj)) : List (Addr × Obj) :=
  (TL, listObj ts ct) :: (RL, listObj [.ref x0, .ref x1, .ref x2] 0) :: (n + 1 + 1 + 1 + 1 + 1 + 1, p1) :: (n + 1 + 1 + 1 + 1 + 1, p2) :: (n + 1 + 1 + 1 + 1, oT) :: (n + 1 + 1 + 1, oR) :: (n + 1 + 1, p5) :: (n + 1, o6) :: T
abbrev cs8 (n TL RL : Addr) : List Addr := [TL, RL, n + 1 + 1 + 1 + 1 + 1 + 1, n + 1 + 1 + 1 + 1 + 1, n + 1 + 1 + 1 + 1, n + 1 + 1 + 1, n + 1 + 1, n + 1]
-- the ledger between two rows
def Led (w : World) (left dn rows : List (List Str)) (N : Nat) (n TL RL x0 x1 x2 : Addr) (oT oR o6 : Obj) (nw : List (Addr × Obj)) : Prop :=
  ∃ p1 p2 p5 ts ct T1 U, nw = led8 n TL RL ts ct x0 x1 x2 p1 p2 oT oR p5 o6 T1 ∧ Cell p1 ∧ Cell p2 ∧ Cell p5 ∧ Apart T1 (cs8 n TL RL) ∧ Told w left dn N x0 x1 x2 T1 U ∧ Rows left rows ts U
-- the ledger within a row
def Inn (w : World) (left dn : List (List Str)) (p : List Str) (k N : Nat) (n TL RL : Addr) (ts : List Value) (ct : Nat) (x0 x1 x2 : Addr) (p1 p2 oT oR p5 o6 : Obj) (T1 U own : List (Addr × Obj)) (ys : List Value) (nw : List (Addr × Obj)) : Prop :=
  ∃ T2, nw = led8 n TL RL ts ct x0 x1 x2 p1 p2 oT oR p5 o6 (T2 ++ own) ∧ Turn w left dn p k N x0 x1 x2 T2 U ∧ T2.map (·.1) = T1.map (·.1) ∧ StrsV ys (List.replicate k (btx (due left p)))
section
variable {w : World} {left dn rows : List (List Str)} {N : Nat} {n TL RL x0 x1 x2 : Addr} {oT oR o6 : Obj} {nw : List (Addr × Obj)} {P : Prop}
theorem Led.elim (h : Led w left dn rows N n TL RL x0 x1 x2 oT oR o6 nw)
    (f : ∀ p1 p2 p5 ts ct T1 U, nw = led8 n TL RL ts ct x0 x1 x2 p1 p2 oT oR p5 o6 T1 → Cell p1 → Cell p2 → Cell p5 → Apart T1 (cs8 n TL RL) → Told w left dn N x0 x1 x2 T1 U → Rows left rows ts U → P) : P := by
  obtain ⟨p1, p2, p5, ts, ct, T1, U, e, a, b, c, d, t, r⟩ := h
  exact f p1 p2 p5 ts ct T1 U e a b c d t r
theorem Led.mk {p1 p2 p5 : Obj} {ts : List Value} {ct : Nat} {T1 U : List (Addr × Obj)} (e : nw = led8 n TL RL ts ct x0 x1 x2 p1 p2 oT oR p5 o6 T1) (a : Cell p1) (b : Cell p2) (c : Cell p5) (d : Apart T1 (cs8 n TL RL)) (t : Told w left dn N x0 x1 x2 T1 U) (r : Rows left rows ts U) : Led w left dn rows N n TL RL x0 x1 x2 oT oR o6 nw :=
  ⟨p1, p2, p5, ts, ct, T1, U, e, a, b, c, d, t, r⟩
theorem Inn.elim {p : List Str} {k ct : Nat} {ts ys : List Value} {p1 p2 p5 : Obj} {T1 U own : List (Addr × Obj)} (h : Inn w left dn p k N n TL RL ts ct x0 x1 x2 p1 p2 oT oR p5 o6 T1 U own ys nw)
    (f : ∀ T2, nw = led8 n TL RL ts ct x0 x1 x2 p1 p2 oT oR p5 o6 (T2 ++ own) → Turn w left dn p k N x0 x1 x2 T2 U → T2.map (·.1) = T1.map (·.1) → StrsV ys (List.replicate k (btx (due left p))) → P) : P := by
  obtain ⟨T2, e, a, b, c⟩ := h
  exact f T2 e a b c
end
-- a row's end: one row told more
theorem row_done {w : World} {left dn rows : List (List Str)} {p : List Str} {N c2 ct c' : Nat} {n TL RL x0 x1 x2 D : Addr} {p1 p2 p5 oT oR o6 oT' : Obj} {ts ys2 : List Value} {T1 T2 U own : List (Addr × Obj)} {g h10 : Heap} {L : Addr}
    (hoT : oT' = listObj (ts ++ [.ref D]) c')
    (NN : ∀ news', (∀ q ∈ news', q ∈ (D, listObj ys2 c2) :: led8 n TL RL ts ct x0 x1 x2 p1 p2 oT oR p5 o6 (T2 ++ own) ∧ q.1 ≠ TL) → News g L h10 ((TL, oT') :: news'))
    (hnD : ∀ q ∈ led8 n TL RL ts ct x0 x1 x2 p1 p2 oT oR p5 o6 (T2 ++ own), q.1 ≠ D) (hc : ∀ c ∈ (cs8 n TL RL).tail, c ≠ TL) (hU : Apart (T1 ++ own) (cs8 n TL RL)) (hap : Apart T1 (cs8 n TL RL)) (hke : T2.map (·.1) = T1.map (·.1))
    (ht : Turn w left dn p 3 N x0 x1 x2 T2 U) (hr : Rows left rows ts U) (hy : StrsV ys2 (List.replicate 3 (btx (due left p)))) (h1 : Cell p1) (h2 : Cell p2) (h5 : Cell p5) :
    ∃ T3, News g L h10 (led8 n TL RL (ts ++ [.ref D]) c' x0 x1 x2 p1 p2 oT oR p5 o6 (T3 ++ own)) ∧ Led w left (dn ++ [p]) (rows ++ [p]) (N + 4) n TL RL x0 x1 x2 oT oR o6 (led8 n TL RL (ts ++ [.ref D]) c' x0 x1 x2 p1 p2 oT oR p5 o6 T3) ∧
      ∀ (s₁h : Heap) (b1 b2 b5 : Obj) (ts0 : List Value) (ct0 : Nat), ∀ q ∈ led8 n TL RL (ts ++ [.ref D]) c' x0 x1 x2 p1 p2 oT oR p5 o6 T3, q.1 ∈ (led8 n TL RL ts0 ct0 x0 x1 x2 b1 b2 oT oR b5 o6 T1).map (·.1) ∨ s₁h.get? q.1 = none ∨ ∀ r ∈ own, q.1 ≠ r.1 := by
  subst hoT
  have hDq : ∀ q ∈ own, D ≠ q.1 := fun q hq => (hnD q (.tail _ (.tail _ (.tail _ (.tail _ (.tail _ (.tail _ (.tail _ (.tail _ (List.mem_append_right _ hq)))))))))).symm
  have hD8 := off8 hnD
  have hT2 : ∀ q ∈ T2, q.1 ≠ D := fun q hq => hnD q (.tail _ (.tail _ (.tail _ (.tail _ (.tail _ (.tail _ (.tail _ (.tail _ (List.mem_append_left _ hq)))))))))
  obtain ⟨T3, hR4, hT3⟩ := told_cons (o := listObj ys2 c2) (turn_end ht) hT2
  have NR := told_pick (V' := T3 ++ own) NN (hD8 _ (.head _)) (hc _ (.head _)) (hc _ (.tail _ (.head _))) (hc _ (.tail _ (.tail _ (.head _)))) (hc _ (.tail _ (.tail _ (.tail _ (.head _))))) (hc _ (.tail _ (.tail _ (.tail _ (.tail _ (.head _)))))) (hc _ (.tail _ (.tail _ (.tail _ (.tail _ (.tail _ (.head _))))))) (hc _ (.tail _ (.tail _ (.tail _ (.tail _ (.tail _ (.tail _ (.head _)))))))) (keys_ne hke fun q hq => hU q hq _ (.head _)) (more_app hT3)
  exact ⟨T3, NR, .mk rfl h1 h2 h5 (apart8 hap hke hT3 hD8) hR4 (rows_last hr rfl hy rfl), fun hp b1 b2 b5 ts0 ct0 => fresh8 hke hT3 hDq⟩
end Mine
namespace Mine
theorem tl8 {TL a b c d e f g : Addr} (h1 : a < TL) (h2 : b < TL) (h3 : c < TL) (h4 : d < TL) (h5 : e < TL) (h6 : f < TL) (h7 : g < TL) : ∀ x ∈ [a, b, c, d, e, f, g], x ≠ TL := by
  intro x hx
  simp only [List.mem_cons, List.not_mem_nil, or_false] at hx
  rcases hx with rfl | rfl | rfl | rfl | rfl | rfl | rfl
  all_goals exact Nat.ne_of_lt (by assumption)
theorem file_len {k : Nat} {p : List Str} (h : (inpath p).length ≤ 200) : ∀ g, some (pick3 k (Str.ofString "file.py") (inpath p) (inpath p)) = some g → g.length ≤ 200 := fun g e => by
  injection e with e
  rw [← e]
  unfold pick3
  split
  · decide
  · split <;> exact h
theorem led_less {w : World} {left dn rows : List (List Str)} {p : List Str} {N : Nat} {n TL RL x0 x1 x2 : Addr} {oT oR o6 : Obj} {nw : List (Addr × Obj)} (h : Led w left (dn ++ [p]) rows N n TL RL x0 x1 x2 oT oR o6 nw) : Led w left dn rows N n TL RL x0 x1 x2 oT oR o6 nw :=
  h.elim fun _ _ _ _ _ _ _ e a b c d t r => .mk e a b c d (told_less t fun q hq => List.mem_append_left _ hq) r
end Mine
end
section
open PySem PySem.W PySem.Calls PyProof.Rows
set_option maxRecDepth 100000
namespace Mine
theorem offTC : True := by
  w_top off
  exact True.intro
local macro_rules | `(tactic| walk_at "call type:str int") => `(tactic| (refine strBit ?_; intro _ _))
local macro_rules | `(tactic| walk_at "call type:str") => `(tactic| (refine strBit ?_; intro _ _))
local macro_rules | `(tactic| walk_at "callWith ref") => `(tactic| ((with_reducible show wpAny _ _ (callWith _ (Value.ref _) _ (backTo _ (starEach (PySem.Expr.Starred _ _ :: _ :: _) _)) []) _ _ _); k_dflt (refine' callWith_more ?k1 ?k2 ?_; (case k1 => k_asm); (case k2 => k_is))))
local macro_rules | `(tactic| walk_at "call ref") => `(tactic| ((with_reducible show wpAny _ _ (call (Value.ref 184) _) _ _ _); refine joinAt (by k_asm) (by k_asm) (by k_asm) (by k_asm) (by (dsimp only [Around.deeper]; omega)) (by (dsimp only [Around.deeper]; omega)) (by first | exact strsV_crook (by with_reducible assumption) | exact strsV_init (by with_reducible assumption)) (by with_reducible assumption) ?_; intro t' h' tk F' N'))
local macro_rules | `(tactic| walk_at "call builtin:str.join") => `(tactic| (refine joinV (by with_reducible assumption) (by with_reducible assumption) (by with_reducible assumption) (by decide) (by with_reducible assumption) ?_; intro _ _))
local macro_rules | `(tactic| walk_at "StarOf ref") => `(tactic| (refine starV (by with_reducible assumption) (by with_reducible assumption) (by with_reducible assumption) (by omega) ?_; intro h' F' N'))
local macro_rules | `(tactic| walk_at "subscriptTail Name Name ref int") => `(tactic| (((with_reducible show wpAny _ _ (subscriptTail _ _ (Value.ref _) (Value.int _ _)) _ _ _); k_dflt (refine' itemN ?N ?k1 ?k2 ?k3 ?k4 ?k5 ?_ ?k6; (case k3 => first | decide | with_reducible assumption); (case N => k_asm); (case k1 => k_mem); (case k2 => exact rfl); (case k4 => first | decide | with_reducible assumption); (case k5 => first | with_reducible assumption | exact rfl); (case k6 => with_unfolding_all rfl)))))
local macro_rules | `(tactic| walk_at "subscriptTail Name Name ref int") => `(tactic| (((with_reducible show wpAny _ _ (subscriptTail _ _ (Value.ref _) (Value.int _ _)) _ _ _); k_dflt (refine' itemB ?F ?k1 ?k3 ?k4 ?k5 ?_ ?k6; (case F => k_asm); (case k1 => with_reducible assumption); (case k3 => with_reducible assumption); (case k4 => with_reducible assumption); (case k5 => with_reducible assumption); (case k6 => with_unfolding_all rfl)))))
local macro_rules | `(tactic| walk_at "subscriptTail Name Name ref int") => `(tactic| (((with_reducible show wpAny _ _ (subscriptTail _ _ (Value.ref _) (Value.int (Nat.cast _) _)) _ _ _); k_dflt (refine' item3r ?N ?k1 ?k2 ?k3 ?_ ?k6; (case N => k_asm); (case k1 => k_mem); (case k2 => exact rfl); (case k3 => with_reducible assumption); (case k6 => with_unfolding_all rfl)))))
local macro_rules | `(tactic| walk_at "subscriptTail Subscript Name Name Name ref int") => `(tactic| (((with_reducible show wpAny _ _ (subscriptTail _ _ (Value.ref _) (Value.int (Nat.cast _) _)) _ _ _); k_dflt (refine' item3x ?N ?k1 ?k2 ?k3 ?_ ?k6; (case N => k_asm); (case k1 => k_mem); (case k2 => exact rfl); (case k3 => with_reducible assumption); (case k6 => with_unfolding_all rfl)))))
local macro_rules | `(tactic| walk_at "subscriptTail") => `(tactic| (((with_reducible show wpAny _ _ (subscriptTail _ _ (Value.ref _) (Value.int (Nat.cast _) _)) _ _ _); k_dflt (refine' item3s ?N ?k1 ?k2 ?k3 ?_ ?k6; (case N => k_asm); (case k1 => k_mem); (case k2 => exact rfl); (case k3 => with_reducible assumption); (case k6 => with_unfolding_all rfl)))))
local macro_rules | `(tactic| walk_at "subscriptTail") => `(tactic| (((with_reducible show wpAny _ _ (subscriptTail _ _ (Value.ref _) (Value.bool _)) _ _ _); k_dflt (refine' item2o ?N ?k1 ?k2 ?_ ?k6; (case N => k_asm); (case k1 => k_mem); (case k2 => exact rfl); (case k6 => with_unfolding_all rfl)))))
local macro_rules | `(tactic| walk_at "call builtin:len") => `(tactic| (refine lenV (by with_reducible assumption) (by with_reducible assumption) (by with_reducible assumption) ?_; intro _ _))
local macro_rules | `(tactic| k_all) => `(tactic| with_reducible assumption)
section
variable {w : World} {dp un : Nat} {fr : Option (List Env)} {gd : Option (List Code)} {s : Shared} {loose : List Str} {mean : ExcName → Option Value} {mg mb : Str → Option Value} {R : Result → Shared → Prop} {Q E : Value → Shared → Prop} {h₀ : Heap} {L : Addr} {m : Str → Option Value} {news : List (Addr × Obj)}
set_option maxHeartbeats 2000000
theorem told {al ll : Addr} {avs lvs : List Value} {ac lc : Nat} {asked left : List (List Str)} (G : KT w loose mean mg mb s.heap) (hdp : dp < 800) (hu : un < 100)
    (hal : s.heap.get? al = some (listObj avs ac)) (hll : s.heap.get? ll = some (listObj lvs lc)) (hA : ListsV s.heap avs asked) (hL : ListsV s.heap lvs left) (han : asked.length ≤ 100) (hln : left.length ≤ 100)
    (hask : ∀ p ∈ asked, p ∈ names40) (hl39 : ∀ p ∈ left, p ∈ names39)
    (hleft : ∀ p ∈ left, okNorm p = true ∧ okJoin (p.headD tA) (p.tail ++ crooked) = true ∧ okParts p = true ∧ p.length ≤ 3)
    (hR : ∀ D ts c h' tk d, (∀ b o, s.heap.get? b = some o → h'.get? b = some o) → s.heap.get? D = none → h'.get? D = some (listObj ts c) → RowsH h' left (asked ++ asked.reverse) ts → R (.ok (.ret (.ref D))) { s with heap := h', toks := tk, drawn := d }) :
    codeAny (model PySem.Challenge.rw_il0011_01.row.prog w) (Ar dp un fr gd) (.call (.ref 196) ⟨[.ref al, .ref ll], []⟩) R s := by
  obtain ⟨X, T⟩ := G
  revert X; k_fill; intro X
  refine' enterCells (K := hd.heap_39 w.params) [(Str.ofString "asked", .ref al), (Str.ofString "left", .ref ll)] X T ?kd ?k6 ?k7 ?k9 ?kB ?kD ?_ ?c2 ?c3 ?c4
  (case k6 => k_is)
  (case kd => (simp only [recursionLimit] at *; omega))
  (case k7 => k_is)
  (case k9 => exact BindsTo.of_eq rfl)
  (case c2 => exact rfl)
  (case c3 => exact rfl)
  (case c4 => exact rfl)
  (case kD => decide +kernel)
  (case kB =>
    intro n x hx
    rcases List.mem_cons.mp hx with rfl | hx
    · exact .inr ⟨rfl, rfl⟩
    · rw [List.mem_singleton.mp hx]; exact .inl rfl)
  intro h₁ tk cells F N Y
  obtain ⟨o1, o2, o3, o4, o5, o6, rfl, e1, e2, e3, e4, e5, e6⟩ := cells6 Y
  clear Y
  have hllL : ll ≠ s.heap.objs.size := Nat.ne_of_lt (Heap.lt_size hll)
  have halL : al ≠ s.heap.objs.size := Nat.ne_of_lt (Heap.lt_size hal)
  have hlvn : lvs.length ≤ 1000 := by rw [← hL.1]; omega
  have hleft' : ∀ p ∈ left, okNorm p = true ∧ p.length ≤ 3 := fun p hp => ⟨(hleft p hp).1, (hleft p hp).2.2.2⟩
  (repeat' (first | (k_unfold; (try dsimp only)) | ((fail_if_success (with_reducible show wpAny _ _ (eval (PySem.Expr.ListComp _ _ _ _) _) _ _ _)); (fail_if_success (with_reducible show wpAny _ _ (exec (PySem.Stmt.Assign _ (PySem.Expr.ListComp _ _ _ _) _) _) _ _ _)); (fail_if_success (with_reducible show wpAny _ _ (exec (PySem.Stmt.For _ _ _ _ _) _) _ _ _)); walk1) | (dsimp only; (fail_if_success (with_reducible show wpAny _ _ (eval (PySem.Expr.ListComp _ _ _ _) _) _ _ _)); (fail_if_success (with_reducible show wpAny _ _ (exec (PySem.Stmt.Assign _ (PySem.Expr.ListComp _ _ _ _) _) _) _ _ _)); (fail_if_success (with_reducible show wpAny _ _ (exec (PySem.Stmt.For _ _ _ _ _) _) _ _ _)); walk1)))
  refine assignComp (cl := []) ?hsw rfl rfl (by decide) ?_
  case hsw => first | rfl | kernel_rfl | decide
  (repeat' (first | (k_unfold; (try dsimp only)) | ((fail_if_success (with_reducible show wpAny _ _ (pyIter _) _ _ _)); walk1) | (dsimp only;  (fail_if_success (with_reducible show wpAny _ _ (pyIter _) _ _ _)); walk1)))
  (with_reducible rename Fr _ _ _ _ => FF); (with_reducible rename News _ _ _ _ => NF)
  obtain ⟨nws, hnws, NG⟩ := hold NF
  refine assignCompList (by decide) rfl rfl rfl FF NG (FF.keep _ _ hll) hllL hlvn (fun i ys nw => nw = nws ∧ StrsV ys ((left.map dot).take i)) ⟨rfl, strsV_nil⟩ ?_ ?_
  · rintro i v ys m₁ news₁ own g2 C s₁ Qs st ⟨hh, tk, dr, rfl⟩ hi hv ⟨rfl, hys⟩ F₁ N₁ ho hy hn
    obtain ⟨l, ws, c, p, rfl, hl, hp, hws⟩ := hL.2 i v hv
    have hokp := (hleft p (List.mem_of_getElem? hp)).2.2.1
    have X2 := X.keeps st
    have T2 := T.keeps st
    have hl2 := st _ _ hl
    clear FF NF NG
    (repeat' (first | (k_unfold; (try dsimp only)) | walk1 | (dsimp only; walk1)))
    all_goals (try k_data)
    (with_reducible rename Fr _ _ _ _ => FR); (with_reducible rename News _ _ _ _ => NR)
    exact hy _ _ _ _ _ _ FR NR (fun q hq => .inl (List.mem_map_of_mem hq)) ⟨rfl, strsV_snoc hys (by rw [List.getElem?_map, hp]; rfl)⟩
  · intro D C oC h' tk dr ys c news' hD F' N' hDC hn hJ
    obtain ⟨rfl, hys⟩ := hJ
    rw [show (left.map dot).take lvs.length = left.map dot by rw [← hL.1, ← List.length_map (f := dot), List.take_length]] at hys
    subst hnws
    clear FF NF NG
    (repeat' (first | (k_unfold; (try dsimp only)) | walk1 | (dsimp only; walk1)))
    (with_reducible rename Fr _ _ _ _ => FR); (with_reducible rename News _ _ _ _ => NR)
    refine Stored.intro FR NR (fun p hp => ?_) ?_
    · rcases List.mem_cons.mp hp with rfl | hp
      · exact hDC
      · exact (hn p hp).1
    have hn2 := allNe_r hn
    simp only [AllNe, and_true] at hn2
    clear hn FR NR
    intro h3 F3 N3
    dsimp only
    (repeat' (first | (k_unfold; (try dsimp only)) | ((fail_if_success (with_reducible show wpAny _ _ (eval (PySem.Expr.ListComp _ _ _ _) _) _ _ _)); (fail_if_success (with_reducible show wpAny _ _ (exec (PySem.Stmt.Assign _ (PySem.Expr.ListComp _ _ _ _) _) _) _ _ _)); (fail_if_success (with_reducible show wpAny _ _ (exec (PySem.Stmt.For _ _ _ _ _) _) _ _ _)); walk1) | (dsimp only; (fail_if_success (with_reducible show wpAny _ _ (eval (PySem.Expr.ListComp _ _ _ _) _) _ _ _)); (fail_if_success (with_reducible show wpAny _ _ (exec (PySem.Stmt.Assign _ (PySem.Expr.ListComp _ _ _ _) _) _) _ _ _)); (fail_if_success (with_reducible show wpAny _ _ (exec (PySem.Stmt.For _ _ _ _ _) _) _ _ _)); walk1)))
    refine assignComp (cl := []) ?hsw rfl rfl (by decide) ?_
    case hsw => first | rfl | kernel_rfl | decide
    (repeat' (first | (k_unfold; (try dsimp only)) | ((fail_if_success (with_reducible show wpAny _ _ (pyIter _) _ _ _)); walk1) | (dsimp only;  (fail_if_success (with_reducible show wpAny _ _ (pyIter _) _ _ _)); walk1)))
    (with_reducible rename Fr _ _ _ _ => FF); (with_reducible rename News _ _ _ _ => NF)
    obtain ⟨nws, hnws, NG⟩ := hold NF
    refine assignCompList (by decide) rfl rfl rfl FF NG (FF.keep _ _ hll) hllL hlvn (fun i ys nw => nw = nws ∧ StrsV ys ((left.map crook).take i)) ⟨rfl, strsV_nil⟩ ?_ ?_
    · rintro i v ys2 m₁ news₁ own g2 C s₁ Qs st ⟨hh, tk, dr, rfl⟩ hi hv ⟨rfl, hys2⟩ F₁ N₁ ho hy hn
      obtain ⟨l, ws, c, p, rfl, hl, hp, hws⟩ := hL.2 i v hv
      obtain ⟨hno, hokj, hokp, _⟩ := hleft p (List.mem_of_getElem? hp)
      obtain ⟨t0, ws', rfl, hws'⟩ := strsV_uncons hws hokp
      have X2 := X.keeps st
      have T2 := T.keeps st
      have hl2 := st _ _ hl
      have hwn : (Value.str (p.headD tA) t0 :: ws').length ≤ 1000 := by
        have := hws.1
        have h4 := okParts_len hokp
        omega
      clear FF NF NG
      (repeat' (first | (k_unfold; (try dsimp only)) | walk1 | (dsimp only; walk1)))
      all_goals (try k_data)
      (with_reducible rename Fr _ _ _ _ => FR); (with_reducible rename News _ _ _ _ => NR)
      exact hy _ _ _ _ _ _ FR NR (fun q hq => .inl (List.mem_map_of_mem hq)) ⟨rfl, strsV_snoc hys2 (by rw [List.getElem?_map, hp]; rfl)⟩
    · intro D2 C2 oC2 h' tk dr2 ys2 c2 news' hD2 F' N' hDC2 hn hJ
      obtain ⟨rfl, hys2⟩ := hJ
      rw [show (left.map crook).take lvs.length = left.map crook by rw [← hL.1, ← List.length_map (f := crook), List.take_length]] at hys2
      subst hnws
      clear FF NF NG
      (repeat' (first | (k_unfold; (try dsimp only)) | walk1 | (dsimp only; walk1)))
      (with_reducible rename Fr _ _ _ _ => FR); (with_reducible rename News _ _ _ _ => NR)
      refine Stored.intro FR NR (fun p hp => ?_) ?_
      · rcases List.mem_cons.mp hp with rfl | hp
        · exact hDC2
        · exact (hn p hp).1
      have hn3 := allNe_r hn
      simp only [AllNe, and_true] at hn3
      clear hn FR NR
      intro h4 F4 N4
      dsimp only
      (repeat' (first | (k_unfold; (try dsimp only)) | ((fail_if_success (with_reducible show wpAny _ _ (exec (PySem.Stmt.For _ _ _ _ _) _) _ _ _)); (fail_if_success (with_reducible show wpAny _ _ (call (Value.ref 159) _) _ _ _)); (fail_if_success (with_reducible show wpAny _ _ (subscriptTail _ _ (Value.ref _) (Value.ref _)) _ _ _)); walk1) | (dsimp only; (fail_if_success (with_reducible show wpAny _ _ (exec (PySem.Stmt.For _ _ _ _ _) _) _ _ _)); (fail_if_success (with_reducible show wpAny _ _ (call (Value.ref 159) _) _ _ _)); (fail_if_success (with_reducible show wpAny _ _ (subscriptTail _ _ (Value.ref _) (Value.ref _)) _ _ _)); walk1)))
      (with_reducible rename Fr _ _ _ _ => F5); (with_reducible rename News _ _ _ _ => N5)
      refine mkReader (M := left.map dot) (P := []) (D := []) F5 N5 X T (by dsimp only [Around.deeper]; omega) (by dsimp only [Around.deeper]; omega) (N5.get (by k_mem)) (N5.get (by k_mem)) hys strsV_nil0 rfl (fun i p r h => by simp at h) (by rw [← hys.1, List.length_map]; omega) (Nat.zero_le _) ?_
      intro x0 ig0 l0 h5 tk5 dr5 F6 N6 R0 nd0 fr0
      have ap0 := apartF fr0 N5
      replace N6 := newsSwap N6
      simp only [List.cons_append, List.nil_append] at N6
      clear F5 N5
      (repeat' (first | (k_unfold; (try dsimp only)) | ((fail_if_success (with_reducible show wpAny _ _ (exec (PySem.Stmt.For _ _ _ _ _) _) _ _ _)); (fail_if_success (with_reducible show wpAny _ _ (call (Value.ref 159) _) _ _ _)); (fail_if_success (with_reducible show wpAny _ _ (subscriptTail _ _ (Value.ref _) (Value.ref _)) _ _ _)); walk1) | (dsimp only; (fail_if_success (with_reducible show wpAny _ _ (exec (PySem.Stmt.For _ _ _ _ _) _) _ _ _)); (fail_if_success (with_reducible show wpAny _ _ (call (Value.ref 159) _) _ _ _)); (fail_if_success (with_reducible show wpAny _ _ (subscriptTail _ _ (Value.ref _) (Value.ref _)) _ _ _)); walk1)))
      (with_reducible rename Fr _ _ _ _ => F5); (with_reducible rename News _ _ _ _ => N5)
      refine mkReader (M := []) (P := left.map crook) (D := left.map sl) F5 N5 X T (by dsimp only [Around.deeper]; omega) (by dsimp only [Around.deeper]; omega) (N5.get (by k_mem)) (N5.get (by k_mem)) strsV_nil0 hys2 (by rw [List.length_map, List.length_map]) (norms_map hleft') (Nat.zero_le _) (by rw [← hys2.1, List.length_map]; omega) ?_
      intro x1 ig1 l1 h5 tk5 dr5 F6 N6 R1 nd1 fr1
      have ap1 := apartF fr1 N5
      replace N6 := newsSwap N6
      simp only [List.cons_append, List.nil_append, List.append_assoc] at N6
      clear F5 N5
      (repeat' (first | (k_unfold; (try dsimp only)) | ((fail_if_success (with_reducible show wpAny _ _ (exec (PySem.Stmt.For _ _ _ _ _) _) _ _ _)); (fail_if_success (with_reducible show wpAny _ _ (call (Value.ref 159) _) _ _ _)); (fail_if_success (with_reducible show wpAny _ _ (subscriptTail _ _ (Value.ref _) (Value.ref _)) _ _ _)); walk1) | (dsimp only; (fail_if_success (with_reducible show wpAny _ _ (exec (PySem.Stmt.For _ _ _ _ _) _) _ _ _)); (fail_if_success (with_reducible show wpAny _ _ (call (Value.ref 159) _) _ _ _)); (fail_if_success (with_reducible show wpAny _ _ (subscriptTail _ _ (Value.ref _) (Value.ref _)) _ _ _)); walk1)))
      (with_reducible rename Fr _ _ _ _ => F5); (with_reducible rename News _ _ _ _ => N5)
      refine tail_slice F5 N5 ⟨_, N5.get (by k_mem), rfl, _, rfl⟩ .none .none (.int _ _) (by simp) (by rw [List.size_toArray, ← hys.1, List.length_map, sizeLine_eq]; omega) (by with_unfolding_all rfl) ?_
      intro D5 h5 F6 N6 fr5
      have hyl : ys.length = left.length := by rw [← hys.1, List.length_map]
      rw [pick_even, hyl] at N6
      have hysE := strsV_pick hys (evenIdx left.length)
      rw [pick_map] at hysE
      clear F5
      (repeat' (first | (k_unfold; (try dsimp only)) | ((fail_if_success (with_reducible show wpAny _ _ (exec (PySem.Stmt.For _ _ _ _ _) _) _ _ _)); (fail_if_success (with_reducible show wpAny _ _ (call (Value.ref 159) _) _ _ _)); (fail_if_success (with_reducible show wpAny _ _ (subscriptTail _ _ (Value.ref _) (Value.ref _)) _ _ _)); walk1) | (dsimp only; (fail_if_success (with_reducible show wpAny _ _ (exec (PySem.Stmt.For _ _ _ _ _) _) _ _ _)); (fail_if_success (with_reducible show wpAny _ _ (call (Value.ref 159) _) _ _ _)); (fail_if_success (with_reducible show wpAny _ _ (subscriptTail _ _ (Value.ref _) (Value.ref _)) _ _ _)); walk1)))
      (with_reducible rename Fr _ _ _ _ => F5); (with_reducible rename News _ _ _ _ => N5)
      refine tail_slice F5 N5 ⟨_, N5.get (by k_mem), rfl, _, rfl⟩ (.int _ _) .none (.int _ _) (by simp) (by rw [List.size_toArray, ← hys2.1, List.length_map, sizeLine_eq]; omega) (by with_unfolding_all rfl) ?_
      intro D6 h5 F6 N6 fr6
      have hyl2 : ys2.length = left.length := by rw [← hys2.1, List.length_map]
      rw [pick_odd, hyl2] at N6
      have hysO := strsV_pick hys2 (oddIdx left.length)
      rw [pick_map] at hysO
      clear F5
      (repeat' (first | (k_unfold; (try dsimp only)) | ((fail_if_success (with_reducible show wpAny _ _ (exec (PySem.Stmt.For _ _ _ _ _) _) _ _ _)); (fail_if_success (with_reducible show wpAny _ _ (call (Value.ref 159) _) _ _ _)); (fail_if_success (with_reducible show wpAny _ _ (subscriptTail _ _ (Value.ref _) (Value.ref _)) _ _ _)); walk1) | (dsimp only; (fail_if_success (with_reducible show wpAny _ _ (exec (PySem.Stmt.For _ _ _ _ _) _) _ _ _)); (fail_if_success (with_reducible show wpAny _ _ (call (Value.ref 159) _) _ _ _)); (fail_if_success (with_reducible show wpAny _ _ (subscriptTail _ _ (Value.ref _) (Value.ref _)) _ _ _)); walk1)))
      (with_reducible rename Fr _ _ _ _ => F5); (with_reducible rename News _ _ _ _ => N5)
      have hleftO : ∀ p ∈ pickO left, okNorm p = true ∧ p.length ≤ 3 := fun p hp => hleft' p (mem_picks.mp (.inr hp))
      have hpl := @pick_len left
      refine mkReader (M := (pickE left).map dot) (P := (pickO left).map crook) (D := (pickO left).map sl) F5 N5 X T (by dsimp only [Around.deeper]; omega) (by dsimp only [Around.deeper]; omega) (N5.get (by k_mem)) (N5.get (by k_mem)) hysE hysO (by rw [List.length_map, List.length_map]) (norms_map hleftO) (by rw [← hysE.1, List.length_map]; exact Nat.le_trans hpl.1 (by omega)) (by rw [← hysO.1, List.length_map]; exact Nat.le_trans hpl.2 (by omega)) ?_
      intro x2 ig2 l2 h5 tk5 dr5 F6 N6 R2 nd2 fr2
      have ap2 := apartF fr2 N5
      replace N6 := newsSwap N6
      simp only [List.cons_append, List.nil_append, List.append_assoc] at N6
      have hc0 : ∀ p ∈ l0, ∀ c o, (c, o) ∈ [(s.heap.objs.size + 1 + 1 + 1 + 1 + 1 + 1, o1), (s.heap.objs.size + 1 + 1 + 1 + 1 + 1, o2), (s.heap.objs.size + 1 + 1 + 1 + 1, o3), (s.heap.objs.size + 1 + 1 + 1, o4), (s.heap.objs.size + 1 + 1, o5), (s.heap.objs.size + 1, o6)] → p.1 ≠ c := fun p hp c o hm => ap0 p hp (c, o) (by repeat (first | exact hm | apply List.Mem.tail))
      have hc1 : ∀ p ∈ l1, ∀ c o, (c, o) ∈ [(s.heap.objs.size + 1 + 1 + 1 + 1 + 1 + 1, o1), (s.heap.objs.size + 1 + 1 + 1 + 1 + 1, o2), (s.heap.objs.size + 1 + 1 + 1 + 1, o3), (s.heap.objs.size + 1 + 1 + 1, o4), (s.heap.objs.size + 1 + 1, o5), (s.heap.objs.size + 1, o6)] → p.1 ≠ c := fun p hp c o hm => ap1 p hp (c, o) (by repeat (first | exact List.mem_append_left (bs := l0) hm | apply List.Mem.tail))
      have hc2 : ∀ p ∈ l2, ∀ c o, (c, o) ∈ [(s.heap.objs.size + 1 + 1 + 1 + 1 + 1 + 1, o1), (s.heap.objs.size + 1 + 1 + 1 + 1 + 1, o2), (s.heap.objs.size + 1 + 1 + 1 + 1, o3), (s.heap.objs.size + 1 + 1 + 1, o4), (s.heap.objs.size + 1 + 1, o5), (s.heap.objs.size + 1, o6)] → p.1 ≠ c := fun p hp c o hm => ap2 p hp (c, o) (by repeat (first | exact List.mem_append_left (bs := l0 ++ l1) hm | apply List.Mem.tail))
      have h01 : ∀ p ∈ l1, ∀ q ∈ l0, p.1 ≠ q.1 := fun p hp q hq => ap1 p hp q (by repeat (first | exact hq | apply List.Mem.tail))
      have h02 : ∀ p ∈ l2, ∀ q ∈ l0, p.1 ≠ q.1 := fun p hp q hq => ap2 p hp q (by repeat (first | exact List.mem_append_left l1 hq | apply List.Mem.tail))
      have h12 : ∀ p ∈ l2, ∀ q ∈ l1, p.1 ≠ q.1 := fun p hp q hq => ap2 p hp q (by repeat (first | exact List.mem_append_right l0 hq | apply List.Mem.tail))
      have N7 : News s.heap s.heap.objs.size h5 ((s.heap.objs.size + 1 + 1 + 1 + 1 + 1 + 1, o1) :: (s.heap.objs.size + 1 + 1 + 1 + 1 + 1, o2) :: (s.heap.objs.size + 1 + 1 + 1 + 1, o3) :: (s.heap.objs.size + 1 + 1 + 1, o4) :: (s.heap.objs.size + 1 + 1, o5) :: (s.heap.objs.size + 1, o6) :: (l0 ++ (l1 ++ l2))) := fun p hp => N6 p (by repeat (first | exact hp | apply List.Mem.tail))
      clear F5 N5 N6 ap0 ap1 ap2
      have hcT : ∀ p ∈ l0 ++ (l1 ++ l2), ∀ c o, (c, o) ∈ [(s.heap.objs.size + 1 + 1 + 1 + 1 + 1 + 1, o1), (s.heap.objs.size + 1 + 1 + 1 + 1 + 1, o2), (s.heap.objs.size + 1 + 1 + 1 + 1, o3), (s.heap.objs.size + 1 + 1 + 1, o4), (s.heap.objs.size + 1 + 1, o5), (s.heap.objs.size + 1, o6)] → p.1 ≠ c := fun p hp => by
        rcases List.mem_append.mp hp with hp | hp
        · exact hc0 p hp
        · rcases List.mem_append.mp hp with hp | hp
          · exact hc1 p hp
          · exact hc2 p hp
      obtain ⟨T', hTe, N8⟩ : ∃ T', T' = l0 ++ (l1 ++ l2) ∧ News s.heap s.heap.objs.size h5 ((s.heap.objs.size + 1 + 1 + 1 + 1 + 1 + 1, o1) :: (s.heap.objs.size + 1 + 1 + 1 + 1 + 1, o2) :: (s.heap.objs.size + 1 + 1 + 1 + 1, o3) :: (s.heap.objs.size + 1 + 1 + 1, o4) :: (s.heap.objs.size + 1 + 1, o5) :: (s.heap.objs.size + 1, o6) :: T') := ⟨_, rfl, N7⟩
      rw [← hTe] at hcT
      clear N7
      have hT1 : ∀ p ∈ T', p.1 ≠ s.heap.objs.size + 1 + 1 + 1 + 1 + 1 + 1 := fun p hp => hcT p hp _ o1 (.head _)
      have hT2 : ∀ p ∈ T', p.1 ≠ s.heap.objs.size + 1 + 1 + 1 + 1 + 1 := fun p hp => hcT p hp _ o2 (.tail _ (.head _))
      have hT3 : ∀ p ∈ T', p.1 ≠ s.heap.objs.size + 1 + 1 + 1 + 1 := fun p hp => hcT p hp _ o3 (.tail _ (.tail _ (.head _)))
      have hT4 : ∀ p ∈ T', p.1 ≠ s.heap.objs.size + 1 + 1 + 1 := fun p hp => hcT p hp _ o4 (.tail _ (.tail _ (.tail _ (.head _))))
      have hT5 : ∀ p ∈ T', p.1 ≠ s.heap.objs.size + 1 + 1 := fun p hp => hcT p hp _ o5 (.tail _ (.tail _ (.tail _ (.tail _ (.head _)))))
      have hT6 : ∀ p ∈ T', p.1 ≠ s.heap.objs.size + 1 := fun p hp => hcT p hp _ o6 (.tail _ (.tail _ (.tail _ (.tail _ (.tail _ (.head _))))))
      (repeat' (first | (k_unfold; (try dsimp only)) | ((fail_if_success (with_reducible show wpAny _ _ (eval (PySem.Expr.ListComp _ _ _ _) _) _ _ _)); (fail_if_success (with_reducible show wpAny _ _ (exec (PySem.Stmt.Assign _ (PySem.Expr.ListComp _ _ _ _) _) _) _ _ _)); (fail_if_success (with_reducible show wpAny _ _ (exec (PySem.Stmt.For _ _ _ _ _) _) _ _ _)); walk1) | (dsimp only; (fail_if_success (with_reducible show wpAny _ _ (eval (PySem.Expr.ListComp _ _ _ _) _) _ _ _)); (fail_if_success (with_reducible show wpAny _ _ (exec (PySem.Stmt.Assign _ (PySem.Expr.ListComp _ _ _ _) _) _) _ _ _)); (fail_if_success (with_reducible show wpAny _ _ (exec (PySem.Stmt.For _ _ _ _ _) _) _ _ _)); walk1)))
      (with_reducible rename Fr _ _ _ _ => F9); (with_reducible rename News _ _ _ _ => N9)
      rename_i RL hq1 lRL hq2 oR dR TL hq3 lTL hq4 oT dT
      obtain ⟨m9, hm9, F10⟩ := holdF F9
      clear F9
      have hcA : ∀ (q : Addr), q ∈ [TL, RL, s.heap.objs.size + 1 + 1 + 1 + 1 + 1 + 1, s.heap.objs.size + 1 + 1 + 1 + 1 + 1, s.heap.objs.size + 1 + 1 + 1 + 1, s.heap.objs.size + 1 + 1 + 1, s.heap.objs.size + 1 + 1, s.heap.objs.size + 1] → ∀ p ∈ T', p.1 ≠ q := by
        intro q hq p hp
        simp only [List.mem_cons, List.not_mem_nil, or_false] at hq
        rcases hq with rfl | rfl | rfl | rfl | rfl | rfl | rfl | rfl
        · exact allLt_ne lTL.2.2.2.2.2.2.2 p hp
        · exact allLt_ne lRL.2.2.2.2.2.2 p hp
        · exact hT1 p hp
        · exact hT2 p hp
        · exact hT3 p hp
        · exact hT4 p hp
        · exact hT5 p hp
        · exact hT6 p hp
      have hcT8 : ∀ c ∈ (cs8 s.heap.objs.size TL RL).tail, c ≠ TL := tl8 lTL.1 lTL.2.1 lTL.2.2.1 lTL.2.2.2.1 lTL.2.2.2.2.1 lTL.2.2.2.2.2.1 lTL.2.2.2.2.2.2.1
      have hndT : (T'.map (·.1)).Nodup := by rw [hTe]; exact nodup3 nd0 nd1 nd2 h01 h02 h12
      refine execFor ?_
      (repeat' (first | (k_unfold; (try dsimp only)) | ((fail_if_success (with_reducible show wpAny _ _ (pyIter _) _ _ _)); walk1) | (dsimp only;  (fail_if_success (with_reducible show wpAny _ _ (pyIter _) _ _ _)); walk1)))
      (with_reducible rename News _ _ _ _ => N10)
      refine forListB rfl F10 N10 (F10.keep _ _ hal) halL
        (fun i m' nw => m' = m9 ∧ Led w left (asked.take i) (asked.take i) (4 * i + 1) s.heap.objs.size TL RL x0 x1 x2 oT oR o6 nw) ?_ ?_ ?_
      · exact ⟨rfl, .mk rfl ⟨_, e1⟩ ⟨_, e2⟩ ⟨_, e5⟩ (fun p hp c hc => hcA c hc p hp) ⟨1, 1, 1, Nat.le_refl _, Nat.le_refl _, Nat.le_refl _, l0, l1, l2, ig0, ig1, ig2, _, _, _, by rw [hTe, List.append_nil], R0, R1, R2, known_start, known_start, known_start, hndT⟩ ⟨rfl, fun j p h => by simp at h⟩⟩
      · rintro i v m₁ news₁ own s₁ Qs ⟨hh, tkk, drr, rfl⟩ hi hv ⟨rfl, hJ⟩ F₁ N₁ hap2 hQ
        refine hJ.elim ?_
        rintro p1 p2 p5 ts ct T1 U rfl ⟨v1, hp1⟩ ⟨v2, hp2⟩ ⟨v5, hp5⟩ hap htold hrows
        clear hJ
        obtain ⟨l, ws, c, p, rfl, hl, hp, hws⟩ := hA.2 i v hv
        have hp40 := hask p (List.mem_of_getElem? hp)
        have hib : 4 * i + 1 + 2 < 1000 := bnd4 (by rw [hA.1]; exact hi) han
        obtain ⟨hokp, hokj, hdl, hsl, hil⟩ := okAsk_parts (ask_ok hp40)
        obtain ⟨t0, ws', rfl, hws'⟩ := strsV_uncons hws hokp
        have hwn : (Value.str (p.headD tA) t0 :: ws').length ≤ 1000 := by
          have := hws.1
          have h4 := okParts_len hokp
          omega
        simp only [List.cons_append] at N₁
        have hown := hap2 (by rw [hal]; rfl)
        have hU : Apart (T1 ++ own) (cs8 s.heap.objs.size TL RL) := apart_own hap hown
        have hU0 : ∀ p ∈ T1 ++ own, p.1 ≠ TL := fun p hp => hU p hp _ (.head _)
        have hU1 : ∀ p ∈ T1 ++ own, p.1 ≠ s.heap.objs.size + 1 + 1 + 1 + 1 + 1 + 1 := fun p hp => hU p hp _ (.tail _ (.tail _ (.head _)))
        have hU2 : ∀ p ∈ T1 ++ own, p.1 ≠ s.heap.objs.size + 1 + 1 + 1 + 1 + 1 := fun p hp => hU p hp _ (.tail _ (.tail _ (.tail _ (.head _))))
        have hU5 : ∀ p ∈ T1 ++ own, p.1 ≠ s.heap.objs.size + 1 + 1 := fun p hp => hU p hp _ (.tail _ (.tail _ (.tail _ (.tail _ (.tail _ (.tail _ (.head _)))))))
        clear F10 N10
        (repeat' (first | (k_unfold; (try dsimp only)) | ((fail_if_success (with_reducible show wpAny _ _ (eval (PySem.Expr.ListComp _ _ _ _) _) _ _ _)); (fail_if_success (with_reducible show wpAny _ _ (exec (PySem.Stmt.Assign _ (PySem.Expr.ListComp _ _ _ _) _) _) _ _ _)); (fail_if_success (with_reducible show wpAny _ _ (exec (PySem.Stmt.For _ _ _ _ _) _) _ _ _)); walk1) | (dsimp only; (fail_if_success (with_reducible show wpAny _ _ (eval (PySem.Expr.ListComp _ _ _ _) _) _ _ _)); (fail_if_success (with_reducible show wpAny _ _ (exec (PySem.Stmt.Assign _ (PySem.Expr.ListComp _ _ _ _) _) _) _ _ _)); (fail_if_success (with_reducible show wpAny _ _ (exec (PySem.Stmt.For _ _ _ _ _) _) _ _ _)); walk1)))
        refine evalComp (cl := ?cl) ?hcl rfl (by decide) ?_
        case hcl => rfl
        (repeat' (first | (k_unfold; (try dsimp only)) | ((fail_if_success (with_reducible show wpAny _ _ (pyIter _) _ _ _)); walk1) | (dsimp only;  (fail_if_success (with_reducible show wpAny _ _ (pyIter _) _ _ _)); walk1)))
        (with_reducible rename Fr _ _ _ _ => FC); (with_reducible rename News _ _ _ _ => NC); (rename IsRange _ _ _ _ _ _ _ _ => RC)
        obtain ⟨cI, cO, hcI, hcO, NC2⟩ := open8 (P := fun o => ∃ ti, o.data = .cell (some (.str (inpath p) ti))) (Q := fun o => o.data = .cell (some (.ref l))) NC ⟨_, by assumption⟩ (by assumption)
        obtain ⟨ti, hcI⟩ := hcI
        clear NC
        refine evalCompRange (n := 3) (by decide) rfl rfl rfl FC NC2 RC rfl (by decide)
          (fun k ys nw => Inn w left (asked.take i) p k (4 * i + 1) s.heap.objs.size TL RL ts ct x0 x1 x2 p1 cI oT oR cO o6 T1 U own ys nw) ?_ ?_ ?_
        · exact ⟨T1, rfl, turn_start htold, rfl, strsV_nil0⟩
        · rintro k v ys m₁ news₁ own2 g2 C s₁ Qs2 st ⟨hh2, tk2, dr2, rfl⟩ hk ⟨tkk, rfl⟩ hI F₁ N₁ hap3 hy hno
          refine hI.elim ?_
          rintro T2 rfl hturn hke hys2
          clear hI
          have X2 := X.keeps st
          have T2' := T.keeps st
          have hl2 := st _ _ hl
          have hown2 := hap3 trivial
          simp only [List.cons_append, List.append_assoc] at N₁
          have hdpA : ((Ar dp un fr gd).deeper (envOfC (Str.ofString "_law_told") default s.heap.objs.size 196 (Value.ref 195))).depth < 860 := by dsimp only [Around.deeper]; omega
          have huA : ((Ar dp un fr gd).deeper (envOfC (Str.ofString "_law_told") default s.heap.objs.size 196 (Value.ref 195))).units < 160 := by dsimp only [Around.deeper]; omega
          have hd40 : ∀ q ∈ asked.take i, q ∈ names40 := fun q hq => hask q (List.mem_of_mem_take hq)
          (repeat' (first | (k_unfold; (try dsimp only)) | ((fail_if_success (with_reducible show wpAny _ _ (getMethod (Value.ref _) (Str.ofString "names") _) _ _ _)); (fail_if_success (with_reducible show wpAny _ _ (call (Value.ref 156) _) _ _ _)); walk1) | (dsimp only; (fail_if_success (with_reducible show wpAny _ _ (getMethod (Value.ref _) (Str.ofString "names") _) _ _ _)); (fail_if_success (with_reducible show wpAny _ _ (call (Value.ref 156) _) _ _ _)); walk1)))
          all_goals (try k_data)
          (with_reducible rename Fr _ _ _ _ => FG); (with_reducible rename News _ _ _ _ => NG)
          refine methk (pre := [_, _, _, _, _, _, _, _]) (T1 := T2) (post := own ++ own2) hk FG NG X2 hturn ?_
          (repeat' (first | (k_unfold; (try dsimp only)) | ((fail_if_success (with_reducible show wpAny _ _ (getMethod (Value.ref _) (Str.ofString "names") _) _ _ _)); (fail_if_success (with_reducible show wpAny _ _ (call (Value.ref 156) _) _ _ _)); walk1) | (dsimp only; (fail_if_success (with_reducible show wpAny _ _ (getMethod (Value.ref _) (Str.ofString "names") _) _ _ _)); (fail_if_success (with_reducible show wpAny _ _ (call (Value.ref 156) _) _ _ _)); walk1)))
          all_goals (try k_data)
          (with_reducible rename Fr _ _ _ _ => FH); (with_reducible rename News _ _ _ _ => NH)
          have NH2 := fun q hq => NH q (.tail _ hq)
          refine askk (f := some (pick3 k (Str.ofString "file.py") (inpath p) (inpath p))) (tf := pick3 k tk2 ti ti) (pre := [(TL, listObj ts ct), (RL, listObj [.ref x0, .ref x1, .ref x2] 0), (s.heap.objs.size + 1 + 1 + 1 + 1 + 1 + 1, p1), (s.heap.objs.size + 1 + 1 + 1 + 1 + 1, cI), (s.heap.objs.size + 1 + 1 + 1 + 1, oT), (s.heap.objs.size + 1 + 1 + 1, oR), (s.heap.objs.size + 1 + 1, cO), (s.heap.objs.size + 1, o6)]) (T1 := T2) (post := own ++ own2) hk FH NH2 X2 T2' ⟨hdpA, huA, hl39, hp40, file_len hil⟩ hturn (apAll hap hke hown hown2) hib hd40 ?q0 ?q1 ?q2 ?_
          case q0 => exact fun e sn K => by subst e; exact says_gen (A := left) (B := []) K hl39 (fun q hq => nomatch hq) hp40 (.inr rfl) (by simp [due])
          case q1 => exact fun e sn K => by subst e; exact says_gen (A := []) (B := left) K (fun q hq => nomatch hq) hl39 hp40 (.inl rfl) (by simp [due])
          case q2 => exact fun e sn K => by subst e; exact says_gen (A := pickE left) (B := pickO left) K (fun q hq => hl39 q (mem_picks.mp (.inl hq))) (fun q hq => hl39 q (mem_picks.mp (.inr hq))) hp40 (.inl rfl) due_picks
          intro u h' tk3 d3 T3 F' N' R3 hke3
          simp only [List.cons_append, List.nil_append] at N'
          clear FH NH NH2
          (repeat' (first | (k_unfold; (try dsimp only)) | walk1 | (dsimp only; walk1)))
          all_goals (try k_data)
          (with_reducible rename Fr _ _ _ _ => FR); (with_reducible rename News _ _ _ _ => NR)
          exact hy _ _ _ _ _ _ FR (by simp only [List.cons_append, List.append_assoc]; exact NR) (fun q hq => .inl (keys_same hke3 hq)) ⟨T3, rfl, R3, hke3.trans hke, strsV_rep hys2⟩
        · rintro D h' tk d ys2 c2 news' hD F' N' hnD hI
          refine hI.elim ?_
          rintro T2 rfl hturn hke hys2
          clear FC NC2 hI
          (repeat' (first | (k_unfold; (try dsimp only)) | ((fail_if_success (with_reducible show wpAny _ _ (call (Value.builtin "list.append") _) _ _ _)); walk1) | (dsimp only; (fail_if_success (with_reducible show wpAny _ _ (call (Value.builtin "list.append") _) _ _ _)); walk1)))
          all_goals (try k_data)
          (with_reducible rename Fr _ _ _ _ => FS); (with_reducible rename News _ _ _ _ => NS)
          have htl : ts.length ≤ 1000 := by rw [hrows.1, List.length_take]; omega
          refine appL FS NS (by k_mem) htl ?_
          intro h10 c' FR NN
          obtain ⟨T3, NR, hLed, hfr⟩ := row_done rfl NN hnD hcT8 hU hap hke hturn hrows hys2 ⟨_, hp1⟩ ⟨_, hcI⟩ ⟨_, hcO⟩
          have htn := take_succ hp
          clear FS NS NN
          (repeat' (first | (k_unfold; (try dsimp only)) | walk1 | (dsimp only; walk1)))
          all_goals (try k_data)
          rw [← htn] at hLed
          exact (hQ _ _ _ _ (led8 s.heap.objs.size TL RL _ _ x0 x1 x2 _ _ oT oR _ o6 T3) FR NR (hfr _ _ _ _ _ _) ⟨rfl, hLed⟩).1
      · intro h' tk d m' news' F' N' hJ
        obtain ⟨rfl, hJ⟩ := hJ
        rw [← hA.1, List.take_length] at hJ
        refine hJ.elim ?_
        rintro p1 p2 p5 ts ct T1 U rfl ⟨v1, hp1⟩ ⟨v2, hp2⟩ ⟨v5, hp5⟩ hap htold hrows
        clear F10 N10 hJ
        dsimp only
        have havn : avs.length ≤ 1000 := by rw [← hA.1]; omega
        (repeat' (first | (k_unfold; (try dsimp only)) | ((fail_if_success (with_reducible show wpAny _ _ (eval (PySem.Expr.ListComp _ _ _ _) _) _ _ _)); (fail_if_success (with_reducible show wpAny _ _ (exec (PySem.Stmt.Assign _ (PySem.Expr.ListComp _ _ _ _) _) _) _ _ _)); (fail_if_success (with_reducible show wpAny _ _ (exec (PySem.Stmt.For _ _ _ _ _) _) _ _ _)); walk1) | (dsimp only; (fail_if_success (with_reducible show wpAny _ _ (eval (PySem.Expr.ListComp _ _ _ _) _) _ _ _)); (fail_if_success (with_reducible show wpAny _ _ (exec (PySem.Stmt.Assign _ (PySem.Expr.ListComp _ _ _ _) _) _) _ _ _)); (fail_if_success (with_reducible show wpAny _ _ (exec (PySem.Stmt.For _ _ _ _ _) _) _ _ _)); walk1)))
        refine execFor ?_
        (repeat' (first | (k_unfold; (try dsimp only)) | ((fail_if_success (with_reducible show wpAny _ _ (pyIter _) _ _ _)); walk1) | (dsimp only;  (fail_if_success (with_reducible show wpAny _ _ (pyIter _) _ _ _)); walk1)))
        (with_reducible rename Fr _ _ _ _ => F20); (with_reducible rename News _ _ _ _ => N20); (rename IsRange _ _ _ _ _ _ _ _ => RC)
        obtain ⟨m8, hm8, F21⟩ := holdF F20
        clear F20
        refine forDownB (n := avs.length) rfl F21 N20 RC rfl havn
          (fun j m' nw => m' = m8 ∧ Led w left asked (asked ++ asked.reverse.take j) (4 * asked.length + 1 + 4 * j) s.heap.objs.size TL RL x0 x1 x2 oT oR o6 nw) ?_ ?_ ?_
        · exact ⟨rfl, .mk rfl ⟨_, hp1⟩ ⟨_, hp2⟩ ⟨_, hp5⟩ hap htold (by rw [List.take_zero, List.append_nil]; exact hrows)⟩
        · rintro j v m₁ news₁ own s₁ Qs ⟨hh, tkk, drr, rfl⟩ hj ⟨tv, rfl⟩ ⟨rfl, hJ⟩ F₁ N₁ hap2 hQ
          refine hJ.elim ?_
          clear hp1 hp2 hp5 hap htold hrows
          rintro p1 p2 p5 ts ct T1 U rfl ⟨v1, hp1⟩ ⟨v2, hp2⟩ ⟨v5, hp5⟩ hap htold hrows
          clear hJ
          obtain ⟨ix, hix⟩ : ∃ ix : Int, ix = (avs.length : Int) - 1 - j := ⟨_, rfl⟩
          rw [← hix]
          have hi0 : 0 ≤ ix := by omega
          have hi1 : ix < 1000 := by omega
          have hixn : ix.toNat < avs.length := by omega
          obtain ⟨l, ws, c, p, hv, hl, hp, hws⟩ := hA.2 ix.toNat _ (List.getElem?_eq_getElem hixn)
          have hva : avs[ix.toNat]? = some (.ref l) := by rw [List.getElem?_eq_getElem hixn, hv]
          have hp40 := hask p (List.mem_of_getElem? hp)
          have hpA : p ∈ asked := List.mem_of_getElem? hp
          have hpr : asked.reverse[j]? = some p := by
            rw [List.getElem?_reverse (by rw [hA.1]; exact hj), ← hp]
            congr 1
            have := hA.1
            omega
          obtain ⟨Ri, cR, t1, t2, t3, hti, hRi⟩ := hrows.2 ix.toNat p (by rw [List.getElem?_append_left (by rw [hA.1]; exact hixn)]; exact hp)
          have htsa : ts.toArray[ix.toNat]? = some (.ref Ri) := by simpa using hti
          have hib : 4 * asked.length + 1 + 4 * j + 2 < 1000 := by have := hA.1; omega
          obtain ⟨hokp, hokj, hdl, hsl, hil⟩ := okAsk_parts (ask_ok hp40)
          simp only [List.cons_append] at N₁
          have hown := hap2 trivial
          have hU : Apart (T1 ++ own) (cs8 s.heap.objs.size TL RL) := apart_own hap hown
          have hU0 : ∀ p ∈ T1 ++ own, p.1 ≠ TL := fun p hp => hU p hp _ (.head _)
          have hU1 : ∀ p ∈ T1 ++ own, p.1 ≠ s.heap.objs.size + 1 + 1 + 1 + 1 + 1 + 1 := fun p hp => hU p hp _ (.tail _ (.tail _ (.head _)))
          clear F21 N20
          (repeat' (first | (k_unfold; (try dsimp only)) | ((fail_if_success (with_reducible show wpAny _ _ (eval (PySem.Expr.ListComp _ _ _ _) _) _ _ _)); (fail_if_success (with_reducible show wpAny _ _ (exec (PySem.Stmt.Assign _ (PySem.Expr.ListComp _ _ _ _) _) _) _ _ _)); (fail_if_success (with_reducible show wpAny _ _ (exec (PySem.Stmt.For _ _ _ _ _) _) _ _ _)); walk1) | (dsimp only; (fail_if_success (with_reducible show wpAny _ _ (eval (PySem.Expr.ListComp _ _ _ _) _) _ _ _)); (fail_if_success (with_reducible show wpAny _ _ (exec (PySem.Stmt.Assign _ (PySem.Expr.ListComp _ _ _ _) _) _) _ _ _)); (fail_if_success (with_reducible show wpAny _ _ (exec (PySem.Stmt.For _ _ _ _ _) _) _ _ _)); walk1)))
          refine evalComp (cl := ?cl2) ?hcl2 rfl (by decide) ?_
          case hcl2 => rfl
          (repeat' (first | (k_unfold; (try dsimp only)) | ((fail_if_success (with_reducible show wpAny _ _ (pyIter _) _ _ _)); walk1) | (dsimp only;  (fail_if_success (with_reducible show wpAny _ _ (pyIter _) _ _ _)); walk1)))
          (with_reducible rename Fr _ _ _ _ => FC); (with_reducible rename News _ _ _ _ => NC); (rename IsRange _ _ _ _ _ _ _ _ => RC2)
          obtain ⟨cO, hcO, NC2⟩ := open3 (P := fun o => o.data = .cell (some (.int ix tv))) NC (by assumption)
          clear NC
          refine evalCompRange (n := 3) (by decide) rfl rfl rfl FC NC2 RC2 rfl (by decide)
            (fun k ys nw => Inn w left asked p k (4 * asked.length + 1 + 4 * j) s.heap.objs.size TL RL ts ct x0 x1 x2 cO p2 oT oR p5 o6 T1 U own ys nw) ?_ ?_ ?_
          · exact ⟨T1, rfl, turn_start htold, rfl, strsV_nil0⟩
          · rintro k v ys m₁ news₁ own2 g2 C s₁ Qs2 st ⟨hh2, tk2, dr2, rfl⟩ hk ⟨tkk, rfl⟩ hI F₁ N₁ hap3 hy hno
            refine hI.elim ?_
            rintro T2 rfl hturn hke hys2
            clear hI
            have X2 := X.keeps st
            have T2' := T.keeps st
            have hl2 := st _ _ hl
            have hal2 := st _ _ hal
            have hown2 := hap3 trivial
            simp only [List.cons_append, List.append_assoc] at N₁
            have NX := news_dup (x := (Ri, listObj [.str (btx (due left p)) t1, .str (btx (due left p)) t2, .str (btx (due left p)) t3] cR)) N₁ (.tail _ (.tail _ (.tail _ (.tail _ (.tail _ (.tail _ (.tail _ (.tail _ (List.mem_append_left _ (turn_rest hturn _ hRi))))))))))
            clear N₁ FC NC2
            have hdpA : ((Ar dp un fr gd).deeper (envOfC (Str.ofString "_law_told") default s.heap.objs.size 196 (Value.ref 195))).depth < 860 := by dsimp only [Around.deeper]; omega
            have huA : ((Ar dp un fr gd).deeper (envOfC (Str.ofString "_law_told") default s.heap.objs.size 196 (Value.ref 195))).units < 160 := by dsimp only [Around.deeper]; omega
            have hfil : (Str.ofString "/c/f.py").length ≤ 200 := by decide
            (repeat' (first | (k_unfold; (try dsimp only)) | ((fail_if_success (with_reducible show wpAny _ _ (getMethod (Value.ref _) (Str.ofString "names") _) _ _ _)); (fail_if_success (with_reducible show wpAny _ _ (call (Value.ref 156) _) _ _ _)); walk1) | (dsimp only; (fail_if_success (with_reducible show wpAny _ _ (getMethod (Value.ref _) (Str.ofString "names") _) _ _ _)); (fail_if_success (with_reducible show wpAny _ _ (call (Value.ref 156) _) _ _ _)); walk1)))
            all_goals (try k_data)
            (with_reducible rename Fr _ _ _ _ => FG); (with_reducible rename News _ _ _ _ => NG)
            refine methk (pre := [(TL, listObj ts ct), (RL, listObj [.ref x0, .ref x1, .ref x2] 0), (s.heap.objs.size + 1 + 1 + 1 + 1 + 1 + 1, cO), (s.heap.objs.size + 1 + 1 + 1 + 1 + 1, p2), (s.heap.objs.size + 1 + 1 + 1 + 1, oT), (s.heap.objs.size + 1 + 1 + 1, oR), (s.heap.objs.size + 1 + 1, p5), (s.heap.objs.size + 1, o6)]) (T1 := T2) (post := own ++ own2) hk FG (fun q hq => NG q (.tail _ hq)) X2 hturn ?_
            (repeat' (first | (k_unfold; (try dsimp only)) | ((fail_if_success (with_reducible show wpAny _ _ (getMethod (Value.ref _) (Str.ofString "names") _) _ _ _)); (fail_if_success (with_reducible show wpAny _ _ (call (Value.ref 156) _) _ _ _)); walk1) | (dsimp only; (fail_if_success (with_reducible show wpAny _ _ (getMethod (Value.ref _) (Str.ofString "names") _) _ _ _)); (fail_if_success (with_reducible show wpAny _ _ (call (Value.ref 156) _) _ _ _)); walk1)))
            all_goals (try k_data)
            (with_reducible rename Fr _ _ _ _ => FH); (with_reducible rename News _ _ _ _ => NH)
            have NH2 := fun q hq => NH q (.tail _ (.tail _ hq))
            refine askk (pre := [(TL, listObj ts ct), (RL, listObj [.ref x0, .ref x1, .ref x2] 0), (s.heap.objs.size + 1 + 1 + 1 + 1 + 1 + 1, cO), (s.heap.objs.size + 1 + 1 + 1 + 1 + 1, p2), (s.heap.objs.size + 1 + 1 + 1 + 1, oT), (s.heap.objs.size + 1 + 1 + 1, oR), (s.heap.objs.size + 1 + 1, p5), (s.heap.objs.size + 1, o6)]) (T1 := T2) (post := own ++ own2) hk FH NH2 X2 T2' ⟨hdpA, huA, hl39, hp40, opt_len hfil⟩ hturn (apAll hap hke hown hown2) hib hask (fun _ sn K => says_known K hpA) (fun _ sn K => says_known K hpA) (fun _ sn K => says_known K hpA) ?_
            intro u h' tk3 d3 T3 F' N' R3 hke3
            simp only [List.cons_append, List.nil_append] at N'
            clear FH NH NH2
            (repeat' (first | (k_unfold; (try dsimp only)) | walk1 | (dsimp only; walk1)))
            all_goals (try k_data)
            (with_reducible rename Fr _ _ _ _ => FR); (with_reducible rename News _ _ _ _ => NR)
            exact hy _ _ _ _ _ _ FR (by simp only [List.cons_append, List.append_assoc]; exact NR) (fun q hq => .inl (keys_same hke3 hq)) ⟨T3, rfl, R3, hke3.trans hke, strsV_rep hys2⟩
          · rintro D h' tk d ys2 c2 news' hD F' N' hnD hI
            refine hI.elim ?_
            rintro T2 rfl hturn hke hys2
            clear FC NC2 hI
            (repeat' (first | (k_unfold; (try dsimp only)) | ((fail_if_success (with_reducible show wpAny _ _ (call (Value.builtin "list.append") _) _ _ _)); walk1) | (dsimp only; (fail_if_success (with_reducible show wpAny _ _ (call (Value.builtin "list.append") _) _ _ _)); walk1)))
            all_goals (try k_data)
            (with_reducible rename Fr _ _ _ _ => FS); (with_reducible rename News _ _ _ _ => NS)
            have htl : ts.length ≤ 1000 := by rw [hrows.1, List.length_append, List.length_take, List.length_reverse]; omega
            refine appL FS NS (by k_mem) htl ?_
            intro h10 c' FR NN
            obtain ⟨T3, NR, hLed, hfr⟩ := row_done rfl NN hnD hcT8 hU hap hke hturn hrows hys2 ⟨_, hcO⟩ ⟨_, hp2⟩ ⟨_, hp5⟩
            have htn : asked ++ asked.reverse.take (j + 1) = (asked ++ asked.reverse.take j) ++ [p] := by rw [take_succ hpr, List.append_assoc]
            clear FS NS NN
            (repeat' (first | (k_unfold; (try dsimp only)) | walk1 | (dsimp only; walk1)))
            all_goals (try k_data)
            rw [← htn] at hLed
            exact (hQ _ _ _ _ (led8 s.heap.objs.size TL RL _ _ x0 x1 x2 _ _ oT oR _ o6 T3) FR NR (hfr _ _ _ _ _ _) ⟨rfl, led_less hLed⟩).1
        · intro h' tk d m' news' F' N' hJ
          obtain ⟨rfl, hJ⟩ := hJ
          rw [List.take_of_length_le (by rw [List.length_reverse, hA.1]; exact Nat.le_refl _)] at hJ
          refine hJ.elim ?_
          clear hp1 hp2 hp5 hap htold hrows
          rintro p1 p2 p5 ts ct T1 U rfl _ _ _ _ htold hrows
          clear F21 N20 hJ
          (repeat' (first | (k_unfold; (try dsimp only)) | walk1 | (dsimp only; walk1)))
          all_goals (try k_data)
          (with_reducible rename Fr _ _ _ _ => FR); (with_reducible rename News _ _ _ _ => NR)
          refine hR _ ts ct _ _ _ FR.keep (NR.fresh (.head _)) (NR.get (.head _)) ⟨hrows.1, fun j p hj => ?_⟩
          obtain ⟨R', c', t1, t2, t3, a, b⟩ := hrows.2 j p hj
          exact ⟨R', c', t1, t2, t3, a, NR.get (.tail _ (.tail _ (.tail _ (.tail _ (.tail _ (.tail _ (.tail _ (.tail _ (told_rest htold _ b))))))))) ⟩
end
end Mine
end
section
open PySem PySem.W PySem.Calls PyProof.Rows
set_option maxRecDepth 100000
namespace Mine
-- lists of lists of strs, of a ledger
def ListsU (U : List (Addr × Obj)) (vs : List Value) (ps : List (List Str)) : Prop := ps.length = vs.length ∧ ∀ (i : Nat) (v : Value), vs[i]? = some v → ∃ l ws c p, v = .ref l ∧ (l, listObj ws c) ∈ U ∧ ps[i]? = some p ∧ StrsV ws p
theorem listsU_nil {U : List (Addr × Obj)} : ListsU U [] [] := ⟨rfl, fun i v h => by simp at h⟩
theorem listsU_more {U V : List (Addr × Obj)} {vs : List Value} {ps : List (List Str)} (a : ListsU U vs ps) (h : ∀ q ∈ U, q ∈ V) : ListsU V vs ps := ⟨a.1, fun i v hi => by
  obtain ⟨l, w, c, p, e, h1, h2, h3⟩ := a.2 i v hi
  exact ⟨l, w, c, p, e, h _ h1, h2, h3⟩⟩
theorem listsU_app {U : List (Addr × Obj)} {vs ws : List Value} {ps qs : List (List Str)} (a : ListsU U vs ps) (b : ListsU U ws qs) : ListsU U (vs ++ ws) (ps ++ qs) := by
  refine ⟨by rw [List.length_append, List.length_append, a.1, b.1], fun i v hi => ?_⟩
  by_cases hlt : i < vs.length
  · rw [List.getElem?_append_left hlt] at hi
    obtain ⟨l, w, c, p, e, h1, h2, h3⟩ := a.2 i v hi
    exact ⟨l, w, c, p, e, h1, by rw [List.getElem?_append_left (by rw [a.1]; exact hlt)]; exact h2, h3⟩
  · rw [List.getElem?_append_right (Nat.le_of_not_lt hlt)] at hi
    obtain ⟨l, w, c, p, e, h1, h2, h3⟩ := b.2 _ v hi
    exact ⟨l, w, c, p, e, h1, by rw [List.getElem?_append_right (by rw [a.1]; exact Nat.le_of_not_lt hlt), a.1]; exact h2, h3⟩
theorem listsU_one {U : List (Addr × Obj)} {l : Addr} {ws : List Value} {c : Nat} {p : List Str} (hm : (l, listObj ws c) ∈ U) (hw : StrsV ws p) : ListsU U [.ref l] [p] := ⟨rfl, fun i v h => by
  match i, h with
  | 0, h => simp at h; exact ⟨l, ws, c, p, h.symm, hm, rfl, hw⟩
  | i + 1, h => simp at h⟩
theorem listsU_cons {U : List (Addr × Obj)} {l : Addr} {ws vs : List Value} {c : Nat} {p : List Str} {ps : List (List Str)} (hm : (l, listObj ws c) ∈ U) (hw : StrsV ws p) (h : ListsU U vs ps) : ListsU U (.ref l :: vs) (p :: ps) := listsU_app (listsU_one hm hw) h
theorem strsV_two {x y : Str} {t u : Tok} : StrsV [.str x t, .str y u] [x, y] := strsV_app strsV_one strsV_one
theorem strsV_four {x y z a : Str} {t u v b : Tok} : StrsV [.str x t, .str y u, .str z v, .str a b] [x, y, z, a] := strsV_app strsV_three strsV_one
def left2 : List (List Str) := [[tA, tAB, tB], [tB, tA]]
def asked4 : List (List Str) := [[tA], [tAB], [tB, tA], [tA, tAB, tB, tA]]
theorem left2_in : ∀ p ∈ left2, p ∈ names39 := fun p hp => List.elem_iff.mp (List.all_eq_true.mp (by decide +kernel : left2.all (fun p => names39.elem p) = true) p hp)
theorem asked4_in : ∀ p ∈ asked4, p ∈ names40 := fun p hp => List.elem_iff.mp (List.all_eq_true.mp (by decide +kernel : asked4.all (fun p => names40.elem p) = true) p hp)
theorem all_app {α : Type} {P : α → Prop} {a b : List α} (h : ∀ q ∈ a, P q) (h' : ∀ q ∈ b, P q) : ∀ q ∈ a ++ b, P q := fun q hq => by
  rcases List.mem_append.mp hq with hq | hq
  · exact h q hq
  · exact h' q hq
theorem in40 {ps : List (List Str)} (h : ∀ p ∈ ps, p ∈ names39) : ∀ p ∈ ps, p ∈ names40 := fun p hp => List.mem_append_left _ (h p hp)
theorem listsV_of {U : List (Addr × Obj)} {vs : List Value} {ps : List (List Str)} {g h : Heap} {L : Addr} (N : News g L h U) (a : ListsU U vs ps) : ListsV h vs ps := ⟨a.1, fun i v hi => by
  obtain ⟨l, w, c, p, e, h1, h2, h3⟩ := a.2 i v hi
  exact ⟨l, w, c, p, e, N.get h1, h2, h3⟩⟩
theorem strsV_values (l : List (Str × Tok)) : StrsV (strValues l) (l.map fun x => x.1) := by
  unfold strValues
  refine ⟨by rw [List.length_map, List.length_map], fun i v hi => ?_⟩
  rw [List.getElem?_map] at hi
  cases hx : l[i]? with
  | none => rw [hx] at hi; cases hi
  | some x =>
    rw [hx] at hi
    injection hi with hi
    exact ⟨x.1, x.2, by rw [List.getElem?_map, hx]; rfl, hi.symm⟩
theorem slicePick_upto8 (items : Array Value) : slicePick items none (some 8) none = (items.toList.take 8).toArray := slicePick_upto' items 8
theorem int_at : ∀ {vs : List Value} {ns : List Int}, IntsAre vs ns → ∀ (i : Nat) (v : Value), vs[i]? = some v → ∃ k t, v = .int k t
  | _, _, .nil, i, v, h => by simp at h
  | _, _, .cons k t r, 0, v, h => by simp at h; exact ⟨k, t, h.symm⟩
  | _, _, .cons k t r, i + 1, v, h => int_at r i v (by simpa using h)
theorem take_get {vs : List Value} {n i : Nat} {v : Value} (h : (vs.take n)[i]? = some v) : vs[i]? = some v := by
  rw [List.getElem?_take] at h
  split at h
  · exact h
  · cases h
theorem mem_mid {x a b c q : Addr × Obj} {U own : List (Addr × Obj)} (h : q ∈ (a :: b :: c :: x :: U) ++ own) : q ∈ x :: ((a :: b :: c :: U) ++ own) := by
  simp only [List.mem_cons, List.mem_append] at h ⊢
  rcases h with (h | h | h | h | h) | h
  · exact .inr (.inl (.inl h))
  · exact .inr (.inl (.inr (.inl h)))
  · exact .inr (.inl (.inr (.inr (.inl h))))
  · exact .inl h
  · exact .inr (.inl (.inr (.inr (.inr h))))
  · exact .inr (.inr h)
theorem fresh_mid {hp : Heap} {x a b c : Addr × Obj} {U own : List (Addr × Obj)} (hx : hp.get? x.1 = none) : ∀ q ∈ a :: b :: c :: x :: U, q.1 ∈ (a :: b :: c :: U).map (·.1) ∨ hp.get? q.1 = none ∨ ∀ r ∈ own, q.1 ≠ r.1 := by
  intro q hq
  simp only [List.mem_cons] at hq
  rcases hq with rfl | rfl | rfl | rfl | hq
  · exact .inl (.head _)
  · exact .inl (.tail _ (.head _))
  · exact .inl (.tail _ (.tail _ (.head _)))
  · exact .inr (.inl hx)
  · exact .inl (.tail _ (.tail _ (.tail _ (List.mem_map_of_mem hq))))
theorem all_snoc {α : Type} {P : α → Prop} {ps : List α} {p : α} (h : ∀ q ∈ ps, P q) (hp : P p) : ∀ q ∈ ps ++ [p], P q := fun q hq => by
  rcases List.mem_append.mp hq with hq | hq
  · exact h q hq
  · rw [List.mem_singleton.mp hq]; exact hp
theorem ne_of_free {h : Heap} {a b : Addr} {o : Obj} (ha : h.get? a = some o) (hb : h.get? b = none) : b ≠ a := fun e => by rw [e, ha] at hb; cases hb
theorem sel_in (i : Int) : sel i ∈ toks3 := by
  unfold sel
  split
  · decide
  · split
    · decide
    · decide
theorem all39b : toks3.all (fun x => toks3.all fun y => toks3.all fun z => (List.range 3).all fun r => names39.elem ([x, y, z].take (r + 1))) = true := by decide +kernel
theorem named39 {x y z : Str} {r : Nat} (hx : x ∈ toks3) (hy : y ∈ toks3) (hz : z ∈ toks3) (hr : r ∈ List.range 3) : [x, y, z].take (r + 1) ∈ names39 :=
  List.elem_iff.mp (List.all_eq_true.mp (List.all_eq_true.mp (List.all_eq_true.mp (List.all_eq_true.mp all39b x hx) y hy) z hz) r hr)
theorem lawName_in (n : Int) : lawName n ∈ names39 := by
  unfold lawName
  have h0 := fmod3_lo (n.fdiv 2)
  have h1 := fmod3_hi (n.fdiv 2)
  generalize (n.fdiv 2).fmod 3 = r at h0 h1
  have hr : r.toNat ∈ List.range 3 := List.mem_range.mpr (by omega)
  have e : (r + 1).toNat = r.toNat + 1 := by omega
  rw [e]
  exact named39 (sel_in _) (sel_in _) (sel_in _) hr
theorem left_ok {p : List Str} (h : p ∈ names39) : okNorm p = true ∧ okJoin (p.headD tA) (p.tail ++ crooked) = true ∧ okParts p = true ∧ p.length ≤ 3 := by
  have h1 := List.all_eq_true.mp all39 p h
  obtain ⟨h2, a4⟩ := and4 h1
  obtain ⟨h3, a3⟩ := and4 h2
  obtain ⟨a1, a2⟩ := and4 h3
  exact ⟨a1, a2, (okAsk_parts a3).1, dec a4⟩
section
variable {w : World} {dp un : Nat} {fr : Option (List Env)} {gd : Option (List Code)} {s : Shared} {loose : List Str} {mean : ExcName → Option Value} {mg mb : Str → Option Value} {Q E : Value → Shared → Prop} {h₀ : Heap} {L : Addr} {m : Str → Option Value} {news : List (Addr × Obj)}
theorem freshF (F : Fr h₀ L s.heap m) {D : Addr} (h : s.heap.get? D = none) : h₀.get? D = none := by
  cases e : h₀.get? D with
  | none => rfl
  | some o => rw [F.keep _ _ e] at h; cases h
theorem newsMore {h' : Heap} {D : Addr} {o : Obj} (F : Fr h₀ L s.heap m) (N : News h₀ L s.heap news) (k : ∀ b o, s.heap.get? b = some o → h'.get? b = some o) (hn : s.heap.get? D = none) (hD : h'.get? D = some o) : News h₀ L h' ((D, o) :: news) := fun p hp => by
  rcases List.mem_cons.mp hp with rfl | hp
  · refine ⟨hD, fun e => ?_, freshF F hn⟩
    obtain ⟨oL, _, _, hL, _⟩ := F.ns
    dsimp only at e; rw [e, hL] at hn; cases hn
  · exact ⟨k _ _ (N p hp).1, (N p hp).2⟩
theorem lawNameAt {n : Int} {t : Tok} (F : Fr h₀ L s.heap m) (N : News h₀ L s.heap news) (X : (hd.heap_39 w.params).In h₀) (T : Top hd.view_39 loose mean mg mb h₀) (hdp : dp < 900) (hu : un < 200)
    (h : ∀ D ws c h' tk, Fr h₀ L h' m → News h₀ L h' ((D, listObj ws c) :: news) → s.heap.get? D = none → StrsV ws (lawName n) → Q (.ref D) { s with heap := h', toks := tk }) : wpAny (model PySem.Challenge.rw_il0011_01.row.prog w) (Ar dp un fr gd) (call (.ref 191) [.int n t]) Q E s :=
  wpAny_call (lawname n t ⟨X.keeps F.keep, T.keeps F.keep⟩ hdp hu fun D l c h' tk k hn hl hD => h D (strValues l) c h' tk (F.after k) (newsMore F N k hn hD) hn (by rw [← hl]; exact strsV_values l))
theorem toldAt {al ll : Addr} {avs lvs : List Value} {ac lc : Nat} {asked left : List (List Str)} (F : Fr h₀ L s.heap m) (N : News h₀ L s.heap news) (X : (hd.heap_39 w.params).In h₀) (T : Top hd.view_39 loose mean mg mb h₀) (hdp : dp < 800) (hu : un < 100)
    (hal : (al, listObj avs ac) ∈ news) (hll : (ll, listObj lvs lc) ∈ news) (hA : ListsU news avs asked) (hL : ListsU news lvs left) (han : asked.length ≤ 100) (hln : left.length ≤ 100) (hask : ∀ p ∈ asked, p ∈ names40) (hl39 : ∀ p ∈ left, p ∈ names39)
    (h : ∀ D ts c h' tk d, Fr h₀ L h' m → News h₀ L h' ((D, listObj ts c) :: news) → RowsH h' left (asked ++ asked.reverse) ts → Q (.ref D) { s with heap := h', toks := tk, drawn := d }) : wpAny (model PySem.Challenge.rw_il0011_01.row.prog w) (Ar dp un fr gd) (call (.ref 196) [.ref al, .ref ll]) Q E s :=
  wpAny_call (told ⟨X.keeps F.keep, T.keeps F.keep⟩ hdp hu (N.get hal) (N.get hll) (listsV_of N hA) (listsV_of N hL) han hln hask hl39 (fun p hp => left_ok (hl39 p hp)) fun D ts c h' tk d k hn hD hr => h D ts c h' tk d (F.after k) (newsMore F N k hn hD) hr)
theorem dueAt {al ll : Addr} {avs lvs : List Value} {ac lc : Nat} {asked left : List (List Str)} (F : Fr h₀ L s.heap m) (N : News h₀ L s.heap news) (X : (hd.heap_39 w.params).In h₀) (T : Top hd.view_39 loose mean mg mb h₀) (hdp : dp < 800) (hu : un < 100)
    (hal : (al, listObj avs ac) ∈ news) (hll : (ll, listObj lvs lc) ∈ news) (hA : ListsU news avs asked) (hL : ListsU news lvs left) (han : asked.length ≤ 100) (hln : left.length ≤ 100) (hask : ∀ p ∈ asked, p ∈ names40) (hl39 : ∀ p ∈ left, p ∈ names39)
    (h : ∀ D ts c h' tk d, Fr h₀ L h' m → News h₀ L h' ((D, listObj ts c) :: news) → (∀ b o, s.heap.get? b = some o → h'.get? b = some o) → RowsH h' left (asked ++ asked.reverse) ts → Q (.ref D) { s with heap := h', toks := tk, drawn := d }) : wpAny (model PySem.Challenge.rw_il0011_01.row.prog w) (Ar dp un fr gd) (call (.ref 201) [.ref al, .ref ll]) Q E s :=
  wpAny_call (dueC ⟨X.keeps F.keep, T.keeps F.keep⟩ hdp hu (N.get hal) (N.get hll) (listsV_of N hA) (listsV_of N hL) han hln hask hl39 fun D ts c h' tk d k hn hD hr => h D ts c h' tk d (F.after k) (newsMore F N k hn hD) k hr)
theorem itemS {prog : Program} {A : Around} {l : Addr} {value slice : PySem.Expr} {items : Array Value} {i : Int} {u : Tok} {v : Value} (F : Fr h₀ L s.heap m) (hg : h₀.IsList l items) (h0 : 0 ≤ i) (h3 : i < 1000) (hx : items[i.toNat]? = some v) (h : Q v s)
    (hs : subscripted slice false (.ref l) (.int i u) = operate [.ref l, .int i u] (getItem (.ref l) (.int i u)) := by with_unfolding_all rfl) :
    wpAny (model prog w) A (subscriptTail value slice (.ref l) (.int i u)) Q E s := by
  have hl : s.heap.IsList l items := let ⟨o, ho, hc, n, hd⟩ := hg; ⟨o, F.keep _ _ ho, hc, n, hd⟩
  exact tail_any hl.typeIs slot_list_getitem.lookup (wpAny_getItem_list hl h0 (by omega) hx h) hs
theorem rowsH_keep {h h' : Heap} {left ps : List (List Str)} {ts : List Value} (a : RowsH h left ps ts) (k : ∀ b o, h.get? b = some o → h'.get? b = some o) : RowsH h' left ps ts := ⟨a.1, fun j p hj => by
  obtain ⟨R, c, t1, t2, t3, h1, h2⟩ := a.2 j p hj
  exact ⟨R, c, t1, t2, t3, h1, k _ _ h2⟩⟩
end
end Mine
end
section
open PySem PySem.W PySem.Calls PyProof.Rows
set_option maxRecDepth 100000
set_option maxHeartbeats 2000000
namespace Mine
theorem offLW : True := by
  w_top off
  exact True.intro
local macro_rules | `(tactic| k_all) => `(tactic| with_reducible assumption)
local macro_rules | `(tactic| walk_at "call builtin:len") => `(tactic| (refine lenN (by with_reducible assumption) (by k_mem) rfl (by with_reducible assumption) ?_; intro _ _))
local macro_rules | `(tactic| walk_at "subscriptTail Name Name ref int") => `(tactic| (((with_reducible show wpAny _ _ (subscriptTail _ _ (Value.ref _) (Value.int _ _)) _ _ _); k_dflt (refine' itemN ?N ?k1 ?k2 ?k3 ?k4 ?k5 ?_ ?k6; (case N => k_asm); (case k1 => k_mem); (case k2 => exact rfl); (case k3 => with_reducible assumption); (case k4 => with_reducible assumption); (case k5 => with_reducible assumption); (case k6 => with_unfolding_all rfl)))))
local macro_rules | `(tactic| walk_at "subscriptTail Name Name ref int") => `(tactic| (((with_reducible show wpAny _ _ (subscriptTail _ _ (Value.ref _) (Value.int _ _)) _ _ _); k_dflt (refine' itemS ?F ?k1 ?k3 ?k4 ?k5 ?_ ?k6; (case F => k_asm); (case k1 => with_reducible assumption); (case k3 => with_reducible assumption); (case k4 => with_reducible assumption); (case k5 => with_reducible assumption); (case k6 => with_unfolding_all rfl)))))
theorem fin : PySem.Challenge.rw_il0011_01.Holds := hd (by
  k_go0
  all_goals (try k_fold)
  rename_i w s₀ s₁ mg mb G Y fa o pm doc ho hg KX X V GL T B TE TW w11 w10 M w9 w8 hcd ns hs hlay0 hL hr hl2 wA wB sl vs wC hSL ra w1 r0 hI hr2 h63 hc2 K0 hD h₁ tk₁ F w4 w3 e4 e3 N0 X0
  clear X0 hD K0 hc2 hr2 r0 w1 ra hl2 hr hlay0 hcd M TW TE B GL V
  have hszs : vs.length ≤ 63 := by rw [hI.length]; omega
  (repeat' (first | (k_unfold; (try dsimp only)) | ((fail_if_success (with_reducible show wpAny _ _ (eval (PySem.Expr.ListComp _ _ _ _) _) _ _ _)); (fail_if_success (with_reducible show wpAny _ _ (exec (PySem.Stmt.Assign _ (PySem.Expr.ListComp _ _ _ _) _) _) _ _ _)); (fail_if_success (with_reducible show wpAny _ _ (binaryOp _ (Value.ref _) _) _ _ _)); (fail_if_success (with_reducible show wpAny _ _ (compareOp _ (Value.ref _) _) _ _ _)); (fail_if_success (with_reducible show wpAny _ _ (pyIter _) _ _ _)); (fail_if_success (with_reducible show wpAny _ _ (call (Value.ref _) _) _ _ _)); (fail_if_success (with_reducible show (ite _ _ _))); (fail_if_success (with_reducible show wpAny _ _ (subscriptTail _ _ (Value.ref _) (Value.ref _)) _ _ _)); walk1) | (dsimp only; (fail_if_success (with_reducible show wpAny _ _ (eval (PySem.Expr.ListComp _ _ _ _) _) _ _ _)); (fail_if_success (with_reducible show wpAny _ _ (exec (PySem.Stmt.Assign _ (PySem.Expr.ListComp _ _ _ _) _) _) _ _ _)); (fail_if_success (with_reducible show wpAny _ _ (binaryOp _ (Value.ref _) _) _ _ _)); (fail_if_success (with_reducible show wpAny _ _ (compareOp _ (Value.ref _) _) _ _ _)); (fail_if_success (with_reducible show wpAny _ _ (pyIter _) _ _ _)); (fail_if_success (with_reducible show wpAny _ _ (call (Value.ref _) _) _ _ _)); (fail_if_success (with_reducible show (ite _ _ _))); (fail_if_success (with_reducible show wpAny _ _ (subscriptTail _ _ (Value.ref _) (Value.ref _)) _ _ _)); walk1)))
  refine wpAny_Assign_Name ?_
  refine evalComp (cl := []) rfl rfl (by decide) ?_
  (repeat' (first | (k_unfold; (try dsimp only)) | ((fail_if_success (with_reducible show wpAny _ _ (eval (PySem.Expr.ListComp _ _ _ _) _) _ _ _)); (fail_if_success (with_reducible show wpAny _ _ (exec (PySem.Stmt.Assign _ (PySem.Expr.ListComp _ _ _ _) _) _) _ _ _)); (fail_if_success (with_reducible show wpAny _ _ (binaryOp _ (Value.ref _) _) _ _ _)); (fail_if_success (with_reducible show wpAny _ _ (compareOp _ (Value.ref _) _) _ _ _)); (fail_if_success (with_reducible show wpAny _ _ (pyIter _) _ _ _)); (fail_if_success (with_reducible show wpAny _ _ (call (Value.ref _) _) _ _ _)); (fail_if_success (with_reducible show (ite _ _ _))); (fail_if_success (with_reducible show wpAny _ _ (subscriptTail _ _ (Value.ref _) (Value.ref _)) _ _ _)); walk1) | (dsimp only; (fail_if_success (with_reducible show wpAny _ _ (eval (PySem.Expr.ListComp _ _ _ _) _) _ _ _)); (fail_if_success (with_reducible show wpAny _ _ (exec (PySem.Stmt.Assign _ (PySem.Expr.ListComp _ _ _ _) _) _) _ _ _)); (fail_if_success (with_reducible show wpAny _ _ (binaryOp _ (Value.ref _) _) _ _ _)); (fail_if_success (with_reducible show wpAny _ _ (compareOp _ (Value.ref _) _) _ _ _)); (fail_if_success (with_reducible show wpAny _ _ (pyIter _) _ _ _)); (fail_if_success (with_reducible show wpAny _ _ (call (Value.ref _) _) _ _ _)); (fail_if_success (with_reducible show (ite _ _ _))); (fail_if_success (with_reducible show wpAny _ _ (subscriptTail _ _ (Value.ref _) (Value.ref _)) _ _ _)); walk1)))
  all_goals (try k_data)
  (with_reducible rename Fr _ _ _ _ => FS); (with_reducible rename News _ _ _ _ => NS)
  refine tail_slice FS NS (let ⟨o, ho, hc, n, hd⟩ := hSL; ⟨o, FS.keep _ _ ho, hc, n, hd⟩) .none (.int _ _) .none (by simp) (by rw [List.size_toArray, sizeLine_eq]; omega) (by with_unfolding_all rfl) ?_
  intro DS h2 F' N' frS
  rw [slicePick_upto8, List.toList_toArray] at N'
  have hDs : s₁.heap.objs.size + 1 + 1 ≠ DS := fun e => by rw [← e, (NS.get (.head _))] at frS; cases frS
  have hDs3 : s₁.heap.objs.size + 1 ≠ DS := fun e => by rw [← e, (NS.get (.tail _ (.head _)))] at frS; cases frS
  have hDL := (N' _ (.head _)).2.1
  dsimp only at hDL
  clear FS NS
  (repeat' (first | (k_unfold; (try dsimp only)) | ((fail_if_success (with_reducible show wpAny _ _ (eval (PySem.Expr.ListComp _ _ _ _) _) _ _ _)); (fail_if_success (with_reducible show wpAny _ _ (exec (PySem.Stmt.Assign _ (PySem.Expr.ListComp _ _ _ _) _) _) _ _ _)); (fail_if_success (with_reducible show wpAny _ _ (binaryOp _ (Value.ref _) _) _ _ _)); (fail_if_success (with_reducible show wpAny _ _ (compareOp _ (Value.ref _) _) _ _ _)); (fail_if_success (with_reducible show wpAny _ _ (pyIter _) _ _ _)); (fail_if_success (with_reducible show wpAny _ _ (call (Value.ref _) _) _ _ _)); (fail_if_success (with_reducible show (ite _ _ _))); (fail_if_success (with_reducible show wpAny _ _ (subscriptTail _ _ (Value.ref _) (Value.ref _)) _ _ _)); walk1) | (dsimp only; (fail_if_success (with_reducible show wpAny _ _ (eval (PySem.Expr.ListComp _ _ _ _) _) _ _ _)); (fail_if_success (with_reducible show wpAny _ _ (exec (PySem.Stmt.Assign _ (PySem.Expr.ListComp _ _ _ _) _) _) _ _ _)); (fail_if_success (with_reducible show wpAny _ _ (binaryOp _ (Value.ref _) _) _ _ _)); (fail_if_success (with_reducible show wpAny _ _ (compareOp _ (Value.ref _) _) _ _ _)); (fail_if_success (with_reducible show wpAny _ _ (pyIter _) _ _ _)); (fail_if_success (with_reducible show wpAny _ _ (call (Value.ref _) _) _ _ _)); (fail_if_success (with_reducible show (ite _ _ _))); (fail_if_success (with_reducible show wpAny _ _ (subscriptTail _ _ (Value.ref _) (Value.ref _)) _ _ _)); walk1)))
  (with_reducible rename Fr _ _ _ _ => FC); (with_reducible rename News _ _ _ _ => NC)
  refine evalCompList (vs := vs.take 8) (c := 0) (by decide) rfl rfl rfl FC NC (NC.get (.head _)) hDL (by rw [List.length_take]; omega)
    (fun i ys nw => ∃ U ps, nw = (DS, listObj (vs.take 8) 0) :: (s₁.heap.objs.size + 1 + 1, w4) :: (s₁.heap.objs.size + 1, w3) :: U ∧ ListsU U ys ps ∧ (∀ p ∈ ps, p ∈ names39) ∧ ys.length = i ∧ Apart U [s₁.heap.objs.size + 1 + 1, s₁.heap.objs.size + 1]) ?_ ?_ ?_
  · exact ⟨[], [], rfl, listsU_nil, (fun p hp => nomatch hp), rfl, (fun p hp => nomatch hp)⟩
  · rintro i v ys m₁ news₁ own g2 C s₂ Qs st ⟨hh, tk, dr, rfl⟩ hi hv ⟨U, ps, rfl, hLU, hps, hyl, hapU⟩ F₁ N₁ ho hy hn
    obtain ⟨k, t, rfl⟩ := int_at hI i v (take_get hv)
    have X2 := KX.keeps st
    have T2 := T.keeps st
    clear FC NC
    (repeat' (first | (k_unfold; (try dsimp only)) | ((fail_if_success (with_reducible show wpAny _ _ (eval (PySem.Expr.ListComp _ _ _ _) _) _ _ _)); (fail_if_success (with_reducible show wpAny _ _ (exec (PySem.Stmt.Assign _ (PySem.Expr.ListComp _ _ _ _) _) _) _ _ _)); (fail_if_success (with_reducible show wpAny _ _ (binaryOp _ (Value.ref _) _) _ _ _)); (fail_if_success (with_reducible show wpAny _ _ (compareOp _ (Value.ref _) _) _ _ _)); (fail_if_success (with_reducible show wpAny _ _ (pyIter _) _ _ _)); (fail_if_success (with_reducible show wpAny _ _ (call (Value.ref _) _) _ _ _)); (fail_if_success (with_reducible show (ite _ _ _))); (fail_if_success (with_reducible show wpAny _ _ (subscriptTail _ _ (Value.ref _) (Value.ref _)) _ _ _)); walk1) | (dsimp only; (fail_if_success (with_reducible show wpAny _ _ (eval (PySem.Expr.ListComp _ _ _ _) _) _ _ _)); (fail_if_success (with_reducible show wpAny _ _ (exec (PySem.Stmt.Assign _ (PySem.Expr.ListComp _ _ _ _) _) _) _ _ _)); (fail_if_success (with_reducible show wpAny _ _ (binaryOp _ (Value.ref _) _) _ _ _)); (fail_if_success (with_reducible show wpAny _ _ (compareOp _ (Value.ref _) _) _ _ _)); (fail_if_success (with_reducible show wpAny _ _ (pyIter _) _ _ _)); (fail_if_success (with_reducible show wpAny _ _ (call (Value.ref _) _) _ _ _)); (fail_if_success (with_reducible show (ite _ _ _))); (fail_if_success (with_reducible show wpAny _ _ (subscriptTail _ _ (Value.ref _) (Value.ref _)) _ _ _)); walk1)))
    refine ite_yes rfl ?_
    (repeat' (first | (k_unfold; (try dsimp only)) | ((fail_if_success (with_reducible show wpAny _ _ (eval (PySem.Expr.ListComp _ _ _ _) _) _ _ _)); (fail_if_success (with_reducible show wpAny _ _ (exec (PySem.Stmt.Assign _ (PySem.Expr.ListComp _ _ _ _) _) _) _ _ _)); (fail_if_success (with_reducible show wpAny _ _ (binaryOp _ (Value.ref _) _) _ _ _)); (fail_if_success (with_reducible show wpAny _ _ (compareOp _ (Value.ref _) _) _ _ _)); (fail_if_success (with_reducible show wpAny _ _ (pyIter _) _ _ _)); (fail_if_success (with_reducible show wpAny _ _ (call (Value.ref _) _) _ _ _)); (fail_if_success (with_reducible show (ite _ _ _))); (fail_if_success (with_reducible show wpAny _ _ (subscriptTail _ _ (Value.ref _) (Value.ref _)) _ _ _)); walk1) | (dsimp only; (fail_if_success (with_reducible show wpAny _ _ (eval (PySem.Expr.ListComp _ _ _ _) _) _ _ _)); (fail_if_success (with_reducible show wpAny _ _ (exec (PySem.Stmt.Assign _ (PySem.Expr.ListComp _ _ _ _) _) _) _ _ _)); (fail_if_success (with_reducible show wpAny _ _ (binaryOp _ (Value.ref _) _) _ _ _)); (fail_if_success (with_reducible show wpAny _ _ (compareOp _ (Value.ref _) _) _ _ _)); (fail_if_success (with_reducible show wpAny _ _ (pyIter _) _ _ _)); (fail_if_success (with_reducible show wpAny _ _ (call (Value.ref _) _) _ _ _)); (fail_if_success (with_reducible show (ite _ _ _))); (fail_if_success (with_reducible show wpAny _ _ (subscriptTail _ _ (Value.ref _) (Value.ref _)) _ _ _)); walk1)))
    all_goals (try k_data)
    (with_reducible rename Fr _ _ _ _ => FR); (with_reducible rename News _ _ _ _ => NR)
    refine lawNameAt FR NR X2 T2 ?d1 ?d2 ?_
    case d1 => decide
    case d2 => decide
    intro DN ws c h3 tk3 F3 N3 fr3 hws
    dsimp only
    refine hy _ _ _ _ _ ((DS, listObj (vs.take 8) 0) :: (s₁.heap.objs.size + 1 + 1, w4) :: (s₁.heap.objs.size + 1, w3) :: (DN, listObj ws c) :: U) F3 (fun q hq => N3 q ?_) (fun q hq => ?_) ⟨_, ps ++ [lawName k], rfl, listsU_app (listsU_more hLU fun q hq => .tail _ hq) (listsU_one (.head _) hws), ?_, by rw [List.length_append, hyl]; rfl, ?_⟩
    · exact mem_mid hq
    · exact fresh_mid (x := (DN, listObj ws c)) fr3 q hq
    · exact all_snoc hps (lawName_in k)
    · exact apart_cons hapU (ne_of_free (NR.get (.tail _ (.head _))) fr3) (ne_of_free (NR.get (.tail _ (.tail _ (.head _)))) fr3)
  · rintro DM h3 tk3 dr3 nvs nc news3 hDM F3 N3 hnM ⟨U, ps, rfl, hLU, hps, hyl, hapU⟩
    have hM1 := hnM (DS, _) (.head _)
    have hM2 := hnM (_, _) (.tail _ (.head _))
    have hM3 := hnM (_, _) (.tail _ (.tail _ (.head _)))
    dsimp only at hM1 hM2 hM3
    have hU1 : ∀ p ∈ U, p.1 ≠ s₁.heap.objs.size + 1 + 1 := fun p hp => hapU p hp _ (.head _)
    have hM1s := hM1.symm
    have hM2s := hM2.symm
    have hM3s := hM3.symm
    have hDss := hDs.symm
    clear FC NC
    (repeat' (first | (k_unfold; (try dsimp only)) | ((fail_if_success (with_reducible show wpAny _ _ (eval (PySem.Expr.ListComp _ _ _ _) _) _ _ _)); (fail_if_success (with_reducible show wpAny _ _ (exec (PySem.Stmt.Assign _ (PySem.Expr.ListComp _ _ _ _) _) _) _ _ _)); (fail_if_success (with_reducible show wpAny _ _ (binaryOp _ (Value.ref _) _) _ _ _)); (fail_if_success (with_reducible show wpAny _ _ (compareOp _ (Value.ref _) _) _ _ _)); (fail_if_success (with_reducible show wpAny _ _ (pyIter _) _ _ _)); (fail_if_success (with_reducible show wpAny _ _ (call (Value.ref _) _) _ _ _)); (fail_if_success (with_reducible show (ite _ _ _))); (fail_if_success (with_reducible show wpAny _ _ (subscriptTail _ _ (Value.ref _) (Value.ref _)) _ _ _)); walk1) | (dsimp only; (fail_if_success (with_reducible show wpAny _ _ (eval (PySem.Expr.ListComp _ _ _ _) _) _ _ _)); (fail_if_success (with_reducible show wpAny _ _ (exec (PySem.Stmt.Assign _ (PySem.Expr.ListComp _ _ _ _) _) _) _ _ _)); (fail_if_success (with_reducible show wpAny _ _ (binaryOp _ (Value.ref _) _) _ _ _)); (fail_if_success (with_reducible show wpAny _ _ (compareOp _ (Value.ref _) _) _ _ _)); (fail_if_success (with_reducible show wpAny _ _ (pyIter _) _ _ _)); (fail_if_success (with_reducible show wpAny _ _ (call (Value.ref _) _) _ _ _)); (fail_if_success (with_reducible show (ite _ _ _))); (fail_if_success (with_reducible show wpAny _ _ (subscriptTail _ _ (Value.ref _) (Value.ref _)) _ _ _)); walk1)))
    all_goals (try k_data)
    have hnl : nvs.length ≤ 1000 := by rw [hyl, List.length_take]; omega
    refine evalComp (cl := ?clA) ?hclA rfl (by decide) ?_
    case hclA => rfl
    (repeat' (first | (k_unfold; (try dsimp only)) | ((fail_if_success (with_reducible show wpAny _ _ (eval (PySem.Expr.ListComp _ _ _ _) _) _ _ _)); (fail_if_success (with_reducible show wpAny _ _ (exec (PySem.Stmt.Assign _ (PySem.Expr.ListComp _ _ _ _) _) _) _ _ _)); (fail_if_success (with_reducible show wpAny _ _ (binaryOp _ (Value.ref _) _) _ _ _)); (fail_if_success (with_reducible show wpAny _ _ (compareOp _ (Value.ref _) _) _ _ _)); (fail_if_success (with_reducible show wpAny _ _ (pyIter _) _ _ _)); (fail_if_success (with_reducible show wpAny _ _ (call (Value.ref _) _) _ _ _)); (fail_if_success (with_reducible show (ite _ _ _))); (fail_if_success (with_reducible show wpAny _ _ (subscriptTail _ _ (Value.ref _) (Value.ref _)) _ _ _)); walk1) | (dsimp only; (fail_if_success (with_reducible show wpAny _ _ (eval (PySem.Expr.ListComp _ _ _ _) _) _ _ _)); (fail_if_success (with_reducible show wpAny _ _ (exec (PySem.Stmt.Assign _ (PySem.Expr.ListComp _ _ _ _) _) _) _ _ _)); (fail_if_success (with_reducible show wpAny _ _ (binaryOp _ (Value.ref _) _) _ _ _)); (fail_if_success (with_reducible show wpAny _ _ (compareOp _ (Value.ref _) _) _ _ _)); (fail_if_success (with_reducible show wpAny _ _ (pyIter _) _ _ _)); (fail_if_success (with_reducible show wpAny _ _ (call (Value.ref _) _) _ _ _)); (fail_if_success (with_reducible show (ite _ _ _))); (fail_if_success (with_reducible show wpAny _ _ (subscriptTail _ _ (Value.ref _) (Value.ref _)) _ _ _)); walk1)))
    all_goals (try k_data)
    (with_reducible rename Fr _ _ _ _ => FC); (with_reducible rename News _ _ _ _ => NC); (rename IsRange _ _ _ _ _ _ _ _ => RC)
    obtain ⟨nws, hnws, NG⟩ := hold NC
    refine evalCompRange (n := nvs.length) (by decide) rfl rfl rfl FC NG RC rfl hnl
      (fun k ys nw => nw = nws ∧ ys.length ≤ k ∧ ∃ qs, ListsU U ys qs ∧ ∀ p ∈ qs, p ∈ names39) ?_ ?_ ?_
    · exact ⟨rfl, Nat.le_refl _, [], listsU_nil, fun p hp => nomatch hp⟩
    · rintro k v ys m₁ news₁ own g2 C s₂ Qs st ⟨hh, tk, dr, rfl⟩ hk ⟨tkk, rfl⟩ ⟨rfl, hys, qs, hq1, hq2⟩ F₁ N₁ ho hy hn
      have hk0 : (0 : Int) ≤ ((k : Nat) : Int) := Int.natCast_nonneg k
      have hk1 : ((k : Nat) : Int) < 1000 := by omega
      have hkv : k < vs.length := by rw [hyl, List.length_take] at hk; omega
      obtain ⟨nk, tnk, hnk⟩ := int_at hI k _ (List.getElem?_eq_getElem hkv)
      have hxs : vs.toArray[((k : Nat) : Int).toNat]? = some (.int nk tnk) := by rw [← hnk]; simp [hkv]
      have hSL2 : g2.IsList sl vs.toArray := let ⟨o, ho, hc, n, hd⟩ := hSL; ⟨o, st _ _ ho, hc, n, hd⟩
      obtain ⟨l, ws, c, p, hv, hl, hp, hws⟩ := hLU.2 k _ (List.getElem?_eq_getElem hk)
      have hxn : nvs.toArray[((k : Nat) : Int).toNat]? = some (.ref l) := by rw [← hv]; simp [hk]
      have X2 := KX.keeps st
      have T2 := T.keeps st
      subst hnws
      clear FC NC NG
      (repeat' (first | (k_unfold; (try dsimp only)) | ((fail_if_success (with_reducible show wpAny _ _ (eval (PySem.Expr.ListComp _ _ _ _) _) _ _ _)); (fail_if_success (with_reducible show wpAny _ _ (exec (PySem.Stmt.Assign _ (PySem.Expr.ListComp _ _ _ _) _) _) _ _ _)); (fail_if_success (with_reducible show wpAny _ _ (binaryOp _ (Value.ref _) _) _ _ _)); (fail_if_success (with_reducible show wpAny _ _ (compareOp _ (Value.ref _) _) _ _ _)); (fail_if_success (with_reducible show wpAny _ _ (pyIter _) _ _ _)); (fail_if_success (with_reducible show wpAny _ _ (call (Value.ref _) _) _ _ _)); (fail_if_success (with_reducible show (ite _ _ _))); (fail_if_success (with_reducible show wpAny _ _ (subscriptTail _ _ (Value.ref _) (Value.ref _)) _ _ _)); walk1) | (dsimp only; (fail_if_success (with_reducible show wpAny _ _ (eval (PySem.Expr.ListComp _ _ _ _) _) _ _ _)); (fail_if_success (with_reducible show wpAny _ _ (exec (PySem.Stmt.Assign _ (PySem.Expr.ListComp _ _ _ _) _) _) _ _ _)); (fail_if_success (with_reducible show wpAny _ _ (binaryOp _ (Value.ref _) _) _ _ _)); (fail_if_success (with_reducible show wpAny _ _ (compareOp _ (Value.ref _) _) _ _ _)); (fail_if_success (with_reducible show wpAny _ _ (pyIter _) _ _ _)); (fail_if_success (with_reducible show wpAny _ _ (call (Value.ref _) _) _ _ _)); (fail_if_success (with_reducible show (ite _ _ _))); (fail_if_success (with_reducible show wpAny _ _ (subscriptTail _ _ (Value.ref _) (Value.ref _)) _ _ _)); walk1)))
      all_goals (try k_data)
      by_cases hc : (nk.fmod 2 == 0) = true
      · refine ite_yes hc ?_
        (repeat' (first | (k_unfold; (try dsimp only)) | ((fail_if_success (with_reducible show wpAny _ _ (eval (PySem.Expr.ListComp _ _ _ _) _) _ _ _)); (fail_if_success (with_reducible show wpAny _ _ (exec (PySem.Stmt.Assign _ (PySem.Expr.ListComp _ _ _ _) _) _) _ _ _)); (fail_if_success (with_reducible show wpAny _ _ (binaryOp _ (Value.ref _) _) _ _ _)); (fail_if_success (with_reducible show wpAny _ _ (compareOp _ (Value.ref _) _) _ _ _)); (fail_if_success (with_reducible show wpAny _ _ (pyIter _) _ _ _)); (fail_if_success (with_reducible show wpAny _ _ (call (Value.ref _) _) _ _ _)); (fail_if_success (with_reducible show (ite _ _ _))); (fail_if_success (with_reducible show wpAny _ _ (subscriptTail _ _ (Value.ref _) (Value.ref _)) _ _ _)); walk1) | (dsimp only; (fail_if_success (with_reducible show wpAny _ _ (eval (PySem.Expr.ListComp _ _ _ _) _) _ _ _)); (fail_if_success (with_reducible show wpAny _ _ (exec (PySem.Stmt.Assign _ (PySem.Expr.ListComp _ _ _ _) _) _) _ _ _)); (fail_if_success (with_reducible show wpAny _ _ (binaryOp _ (Value.ref _) _) _ _ _)); (fail_if_success (with_reducible show wpAny _ _ (compareOp _ (Value.ref _) _) _ _ _)); (fail_if_success (with_reducible show wpAny _ _ (pyIter _) _ _ _)); (fail_if_success (with_reducible show wpAny _ _ (call (Value.ref _) _) _ _ _)); (fail_if_success (with_reducible show (ite _ _ _))); (fail_if_success (with_reducible show wpAny _ _ (subscriptTail _ _ (Value.ref _) (Value.ref _)) _ _ _)); walk1)))
        all_goals (try k_data)
        (with_reducible rename Fr _ _ _ _ => FR); (with_reducible rename News _ _ _ _ => NR)
        refine hy _ _ _ _ _ _ FR NR (fun q hq => .inl ?_) ⟨rfl, by rw [List.length_append]; exact Nat.succ_le_succ hys, qs ++ [p], listsU_app hq1 (listsU_one hl hws), all_snoc hq2 (hps p (List.mem_of_getElem? hp))⟩
        exact List.mem_map_of_mem hq
      · refine ite_no hc ?_
        (repeat' (first | (k_unfold; (try dsimp only)) | ((fail_if_success (with_reducible show wpAny _ _ (eval (PySem.Expr.ListComp _ _ _ _) _) _ _ _)); (fail_if_success (with_reducible show wpAny _ _ (exec (PySem.Stmt.Assign _ (PySem.Expr.ListComp _ _ _ _) _) _) _ _ _)); (fail_if_success (with_reducible show wpAny _ _ (binaryOp _ (Value.ref _) _) _ _ _)); (fail_if_success (with_reducible show wpAny _ _ (compareOp _ (Value.ref _) _) _ _ _)); (fail_if_success (with_reducible show wpAny _ _ (pyIter _) _ _ _)); (fail_if_success (with_reducible show wpAny _ _ (call (Value.ref _) _) _ _ _)); (fail_if_success (with_reducible show (ite _ _ _))); (fail_if_success (with_reducible show wpAny _ _ (subscriptTail _ _ (Value.ref _) (Value.ref _)) _ _ _)); walk1) | (dsimp only; (fail_if_success (with_reducible show wpAny _ _ (eval (PySem.Expr.ListComp _ _ _ _) _) _ _ _)); (fail_if_success (with_reducible show wpAny _ _ (exec (PySem.Stmt.Assign _ (PySem.Expr.ListComp _ _ _ _) _) _) _ _ _)); (fail_if_success (with_reducible show wpAny _ _ (binaryOp _ (Value.ref _) _) _ _ _)); (fail_if_success (with_reducible show wpAny _ _ (compareOp _ (Value.ref _) _) _ _ _)); (fail_if_success (with_reducible show wpAny _ _ (pyIter _) _ _ _)); (fail_if_success (with_reducible show wpAny _ _ (call (Value.ref _) _) _ _ _)); (fail_if_success (with_reducible show (ite _ _ _))); (fail_if_success (with_reducible show wpAny _ _ (subscriptTail _ _ (Value.ref _) (Value.ref _)) _ _ _)); walk1)))
        all_goals (try k_data)
        (with_reducible rename Fr _ _ _ _ => FR); (with_reducible rename News _ _ _ _ => NR)
        refine hn _ _ _ _ _ FR NR (fun q hq => .inl ?_) ⟨rfl, Nat.le_succ_of_le hys, qs, hq1, hq2⟩
        exact List.mem_map_of_mem hq
    · rintro DE h5 tk5 dr5 evs ec news' hDE F5 N5 hnE ⟨rfl, hel, qs, hq1, hq2⟩
      subst hnws
      clear FC NC NG
      (repeat' (first | (k_unfold; (try dsimp only)) | ((fail_if_success (with_reducible show wpAny _ _ (eval (PySem.Expr.ListComp _ _ _ _) _) _ _ _)); (fail_if_success (with_reducible show wpAny _ _ (exec (PySem.Stmt.Assign _ (PySem.Expr.ListComp _ _ _ _) _) _) _ _ _)); (fail_if_success (with_reducible show wpAny _ _ (binaryOp _ (Value.ref _) _) _ _ _)); (fail_if_success (with_reducible show wpAny _ _ (compareOp _ (Value.ref _) _) _ _ _)); (fail_if_success (with_reducible show wpAny _ _ (pyIter _) _ _ _)); (fail_if_success (with_reducible show wpAny _ _ (call (Value.ref _) _) _ _ _)); (fail_if_success (with_reducible show (ite _ _ _))); (fail_if_success (with_reducible show wpAny _ _ (subscriptTail _ _ (Value.ref _) (Value.ref _)) _ _ _)); walk1) | (dsimp only; (fail_if_success (with_reducible show wpAny _ _ (eval (PySem.Expr.ListComp _ _ _ _) _) _ _ _)); (fail_if_success (with_reducible show wpAny _ _ (exec (PySem.Stmt.Assign _ (PySem.Expr.ListComp _ _ _ _) _) _) _ _ _)); (fail_if_success (with_reducible show wpAny _ _ (binaryOp _ (Value.ref _) _) _ _ _)); (fail_if_success (with_reducible show wpAny _ _ (compareOp _ (Value.ref _) _) _ _ _)); (fail_if_success (with_reducible show wpAny _ _ (pyIter _) _ _ _)); (fail_if_success (with_reducible show wpAny _ _ (call (Value.ref _) _) _ _ _)); (fail_if_success (with_reducible show (ite _ _ _))); (fail_if_success (with_reducible show wpAny _ _ (subscriptTail _ _ (Value.ref _) (Value.ref _)) _ _ _)); walk1)))
      all_goals (try k_data)
      (with_reducible rename Fr _ _ _ _ => FR); (with_reducible rename News _ _ _ _ => NR)
      have hel2 : evs.length ≤ 1000 := Nat.le_trans hel hnl
      have hel3 : evs.length ≤ 8 := by rw [hyl, List.length_take] at hel; omega
      refine addL (vs := evs) (ws := [_, _]) FR NR (NR.isList (by k_mem)) (NR.isList (by k_mem)) (by simp only [List.length_cons, List.length_nil]; omega) ?_
      intro DL h6 F6 N6 lDL
      clear FR NR
      (repeat' (first | (k_unfold; (try dsimp only)) | ((fail_if_success (with_reducible show wpAny _ _ (eval (PySem.Expr.ListComp _ _ _ _) _) _ _ _)); (fail_if_success (with_reducible show wpAny _ _ (exec (PySem.Stmt.Assign _ (PySem.Expr.ListComp _ _ _ _) _) _) _ _ _)); (fail_if_success (with_reducible show wpAny _ _ (binaryOp _ (Value.ref _) _) _ _ _)); (fail_if_success (with_reducible show wpAny _ _ (compareOp _ (Value.ref _) _) _ _ _)); (fail_if_success (with_reducible show wpAny _ _ (pyIter _) _ _ _)); (fail_if_success (with_reducible show wpAny _ _ (call (Value.ref _) _) _ _ _)); (fail_if_success (with_reducible show (ite _ _ _))); (fail_if_success (with_reducible show wpAny _ _ (subscriptTail _ _ (Value.ref _) (Value.ref _)) _ _ _)); walk1) | (dsimp only; (fail_if_success (with_reducible show wpAny _ _ (eval (PySem.Expr.ListComp _ _ _ _) _) _ _ _)); (fail_if_success (with_reducible show wpAny _ _ (exec (PySem.Stmt.Assign _ (PySem.Expr.ListComp _ _ _ _) _) _) _ _ _)); (fail_if_success (with_reducible show wpAny _ _ (binaryOp _ (Value.ref _) _) _ _ _)); (fail_if_success (with_reducible show wpAny _ _ (compareOp _ (Value.ref _) _) _ _ _)); (fail_if_success (with_reducible show wpAny _ _ (pyIter _) _ _ _)); (fail_if_success (with_reducible show wpAny _ _ (call (Value.ref _) _) _ _ _)); (fail_if_success (with_reducible show (ite _ _ _))); (fail_if_success (with_reducible show wpAny _ _ (subscriptTail _ _ (Value.ref _) (Value.ref _)) _ _ _)); walk1)))
      all_goals (try k_data)
      refine evalComp (cl := ?clB) ?hclB rfl (by decide) ?_
      case hclB => rfl
      (repeat' (first | (k_unfold; (try dsimp only)) | ((fail_if_success (with_reducible show wpAny _ _ (eval (PySem.Expr.ListComp _ _ _ _) _) _ _ _)); (fail_if_success (with_reducible show wpAny _ _ (exec (PySem.Stmt.Assign _ (PySem.Expr.ListComp _ _ _ _) _) _) _ _ _)); (fail_if_success (with_reducible show wpAny _ _ (binaryOp _ (Value.ref _) _) _ _ _)); (fail_if_success (with_reducible show wpAny _ _ (compareOp _ (Value.ref _) _) _ _ _)); (fail_if_success (with_reducible show wpAny _ _ (pyIter _) _ _ _)); (fail_if_success (with_reducible show wpAny _ _ (call (Value.ref _) _) _ _ _)); (fail_if_success (with_reducible show (ite _ _ _))); (fail_if_success (with_reducible show wpAny _ _ (subscriptTail _ _ (Value.ref _) (Value.ref _)) _ _ _)); walk1) | (dsimp only; (fail_if_success (with_reducible show wpAny _ _ (eval (PySem.Expr.ListComp _ _ _ _) _) _ _ _)); (fail_if_success (with_reducible show wpAny _ _ (exec (PySem.Stmt.Assign _ (PySem.Expr.ListComp _ _ _ _) _) _) _ _ _)); (fail_if_success (with_reducible show wpAny _ _ (binaryOp _ (Value.ref _) _) _ _ _)); (fail_if_success (with_reducible show wpAny _ _ (compareOp _ (Value.ref _) _) _ _ _)); (fail_if_success (with_reducible show wpAny _ _ (pyIter _) _ _ _)); (fail_if_success (with_reducible show wpAny _ _ (call (Value.ref _) _) _ _ _)); (fail_if_success (with_reducible show (ite _ _ _))); (fail_if_success (with_reducible show wpAny _ _ (subscriptTail _ _ (Value.ref _) (Value.ref _)) _ _ _)); walk1)))
      all_goals (try k_data)
      (with_reducible rename Fr _ _ _ _ => FC); (with_reducible rename News _ _ _ _ => NC); (rename IsRange _ _ _ _ _ _ _ _ => RC)
      obtain ⟨nws, hnws, NG⟩ := hold NC
      refine evalCompRange (n := nvs.length) (by decide) rfl rfl rfl FC NG RC rfl hnl
        (fun k ys nw => nw = nws ∧ ys.length ≤ k ∧ ∃ qs, ListsU U ys qs ∧ ∀ p ∈ qs, p ∈ names39) ?_ ?_ ?_
      · exact ⟨rfl, Nat.le_refl _, [], listsU_nil, fun p hp => nomatch hp⟩
      · rintro k v ys m₁ news₁ own g2 C s₂ Qs st ⟨hh, tk, dr, rfl⟩ hk ⟨tkk, rfl⟩ ⟨rfl, hys, rs, hr1, hr2⟩ F₁ N₁ ho hy hn
        have hk0 : (0 : Int) ≤ ((k : Nat) : Int) := Int.natCast_nonneg k
        have hk1 : ((k : Nat) : Int) < 1000 := by omega
        have hkv : k < vs.length := by rw [hyl, List.length_take] at hk; omega
        obtain ⟨nk, tnk, hnk⟩ := int_at hI k _ (List.getElem?_eq_getElem hkv)
        have hxs : vs.toArray[((k : Nat) : Int).toNat]? = some (.int nk tnk) := by rw [← hnk]; simp [hkv]
        have hSL2 : g2.IsList sl vs.toArray := let ⟨o, ho, hc, n, hd⟩ := hSL; ⟨o, st _ _ ho, hc, n, hd⟩
        obtain ⟨l, ws, c, p, hv, hl, hp, hws⟩ := hLU.2 k _ (List.getElem?_eq_getElem hk)
        have hxn : nvs.toArray[((k : Nat) : Int).toNat]? = some (.ref l) := by rw [← hv]; simp [hk]
        have X2 := KX.keeps st
        have T2 := T.keeps st
        subst hnws
        clear FC NC NG
        (repeat' (first | (k_unfold; (try dsimp only)) | ((fail_if_success (with_reducible show wpAny _ _ (eval (PySem.Expr.ListComp _ _ _ _) _) _ _ _)); (fail_if_success (with_reducible show wpAny _ _ (exec (PySem.Stmt.Assign _ (PySem.Expr.ListComp _ _ _ _) _) _) _ _ _)); (fail_if_success (with_reducible show wpAny _ _ (binaryOp _ (Value.ref _) _) _ _ _)); (fail_if_success (with_reducible show wpAny _ _ (compareOp _ (Value.ref _) _) _ _ _)); (fail_if_success (with_reducible show wpAny _ _ (pyIter _) _ _ _)); (fail_if_success (with_reducible show wpAny _ _ (call (Value.ref _) _) _ _ _)); (fail_if_success (with_reducible show (ite _ _ _))); (fail_if_success (with_reducible show wpAny _ _ (subscriptTail _ _ (Value.ref _) (Value.ref _)) _ _ _)); walk1) | (dsimp only; (fail_if_success (with_reducible show wpAny _ _ (eval (PySem.Expr.ListComp _ _ _ _) _) _ _ _)); (fail_if_success (with_reducible show wpAny _ _ (exec (PySem.Stmt.Assign _ (PySem.Expr.ListComp _ _ _ _) _) _) _ _ _)); (fail_if_success (with_reducible show wpAny _ _ (binaryOp _ (Value.ref _) _) _ _ _)); (fail_if_success (with_reducible show wpAny _ _ (compareOp _ (Value.ref _) _) _ _ _)); (fail_if_success (with_reducible show wpAny _ _ (pyIter _) _ _ _)); (fail_if_success (with_reducible show wpAny _ _ (call (Value.ref _) _) _ _ _)); (fail_if_success (with_reducible show (ite _ _ _))); (fail_if_success (with_reducible show wpAny _ _ (subscriptTail _ _ (Value.ref _) (Value.ref _)) _ _ _)); walk1)))
        all_goals (try k_data)
        by_cases hc : (nk.fmod 2 == 1) = true
        · refine ite_yes hc ?_
          (repeat' (first | (k_unfold; (try dsimp only)) | ((fail_if_success (with_reducible show wpAny _ _ (eval (PySem.Expr.ListComp _ _ _ _) _) _ _ _)); (fail_if_success (with_reducible show wpAny _ _ (exec (PySem.Stmt.Assign _ (PySem.Expr.ListComp _ _ _ _) _) _) _ _ _)); (fail_if_success (with_reducible show wpAny _ _ (binaryOp _ (Value.ref _) _) _ _ _)); (fail_if_success (with_reducible show wpAny _ _ (compareOp _ (Value.ref _) _) _ _ _)); (fail_if_success (with_reducible show wpAny _ _ (pyIter _) _ _ _)); (fail_if_success (with_reducible show wpAny _ _ (call (Value.ref _) _) _ _ _)); (fail_if_success (with_reducible show (ite _ _ _))); (fail_if_success (with_reducible show wpAny _ _ (subscriptTail _ _ (Value.ref _) (Value.ref _)) _ _ _)); walk1) | (dsimp only; (fail_if_success (with_reducible show wpAny _ _ (eval (PySem.Expr.ListComp _ _ _ _) _) _ _ _)); (fail_if_success (with_reducible show wpAny _ _ (exec (PySem.Stmt.Assign _ (PySem.Expr.ListComp _ _ _ _) _) _) _ _ _)); (fail_if_success (with_reducible show wpAny _ _ (binaryOp _ (Value.ref _) _) _ _ _)); (fail_if_success (with_reducible show wpAny _ _ (compareOp _ (Value.ref _) _) _ _ _)); (fail_if_success (with_reducible show wpAny _ _ (pyIter _) _ _ _)); (fail_if_success (with_reducible show wpAny _ _ (call (Value.ref _) _) _ _ _)); (fail_if_success (with_reducible show (ite _ _ _))); (fail_if_success (with_reducible show wpAny _ _ (subscriptTail _ _ (Value.ref _) (Value.ref _)) _ _ _)); walk1)))
          all_goals (try k_data)
          (with_reducible rename Fr _ _ _ _ => FR); (with_reducible rename News _ _ _ _ => NR)
          refine hy _ _ _ _ _ _ FR NR (fun q hq => .inl ?_) ⟨rfl, by rw [List.length_append]; exact Nat.succ_le_succ hys, rs ++ [p], listsU_app hr1 (listsU_one hl hws), all_snoc hr2 (hps p (List.mem_of_getElem? hp))⟩
          exact List.mem_map_of_mem hq
        · refine ite_no hc ?_
          (repeat' (first | (k_unfold; (try dsimp only)) | ((fail_if_success (with_reducible show wpAny _ _ (eval (PySem.Expr.ListComp _ _ _ _) _) _ _ _)); (fail_if_success (with_reducible show wpAny _ _ (exec (PySem.Stmt.Assign _ (PySem.Expr.ListComp _ _ _ _) _) _) _ _ _)); (fail_if_success (with_reducible show wpAny _ _ (binaryOp _ (Value.ref _) _) _ _ _)); (fail_if_success (with_reducible show wpAny _ _ (compareOp _ (Value.ref _) _) _ _ _)); (fail_if_success (with_reducible show wpAny _ _ (pyIter _) _ _ _)); (fail_if_success (with_reducible show wpAny _ _ (call (Value.ref _) _) _ _ _)); (fail_if_success (with_reducible show (ite _ _ _))); (fail_if_success (with_reducible show wpAny _ _ (subscriptTail _ _ (Value.ref _) (Value.ref _)) _ _ _)); walk1) | (dsimp only; (fail_if_success (with_reducible show wpAny _ _ (eval (PySem.Expr.ListComp _ _ _ _) _) _ _ _)); (fail_if_success (with_reducible show wpAny _ _ (exec (PySem.Stmt.Assign _ (PySem.Expr.ListComp _ _ _ _) _) _) _ _ _)); (fail_if_success (with_reducible show wpAny _ _ (binaryOp _ (Value.ref _) _) _ _ _)); (fail_if_success (with_reducible show wpAny _ _ (compareOp _ (Value.ref _) _) _ _ _)); (fail_if_success (with_reducible show wpAny _ _ (pyIter _) _ _ _)); (fail_if_success (with_reducible show wpAny _ _ (call (Value.ref _) _) _ _ _)); (fail_if_success (with_reducible show (ite _ _ _))); (fail_if_success (with_reducible show wpAny _ _ (subscriptTail _ _ (Value.ref _) (Value.ref _)) _ _ _)); walk1)))
          all_goals (try k_data)
          (with_reducible rename Fr _ _ _ _ => FR); (with_reducible rename News _ _ _ _ => NR)
          refine hn _ _ _ _ _ FR NR (fun q hq => .inl ?_) ⟨rfl, Nat.le_succ_of_le hys, rs, hr1, hr2⟩
          exact List.mem_map_of_mem hq
      · rintro DF h5 tk5 dr5 fvs fc news' hDF F5 N5 hnF ⟨rfl, hfl, rs, hr1, hr2⟩
        subst hnws
        clear FC NC NG
        (repeat' (first | (k_unfold; (try dsimp only)) | ((fail_if_success (with_reducible show wpAny _ _ (eval (PySem.Expr.ListComp _ _ _ _) _) _ _ _)); (fail_if_success (with_reducible show wpAny _ _ (exec (PySem.Stmt.Assign _ (PySem.Expr.ListComp _ _ _ _) _) _) _ _ _)); (fail_if_success (with_reducible show wpAny _ _ (binaryOp _ (Value.ref _) _) _ _ _)); (fail_if_success (with_reducible show wpAny _ _ (compareOp _ (Value.ref _) _) _ _ _)); (fail_if_success (with_reducible show wpAny _ _ (pyIter _) _ _ _)); (fail_if_success (with_reducible show wpAny _ _ (call (Value.ref _) _) _ _ _)); (fail_if_success (with_reducible show (ite _ _ _))); (fail_if_success (with_reducible show wpAny _ _ (subscriptTail _ _ (Value.ref _) (Value.ref _)) _ _ _)); walk1) | (dsimp only; (fail_if_success (with_reducible show wpAny _ _ (eval (PySem.Expr.ListComp _ _ _ _) _) _ _ _)); (fail_if_success (with_reducible show wpAny _ _ (exec (PySem.Stmt.Assign _ (PySem.Expr.ListComp _ _ _ _) _) _) _ _ _)); (fail_if_success (with_reducible show wpAny _ _ (binaryOp _ (Value.ref _) _) _ _ _)); (fail_if_success (with_reducible show wpAny _ _ (compareOp _ (Value.ref _) _) _ _ _)); (fail_if_success (with_reducible show wpAny _ _ (pyIter _) _ _ _)); (fail_if_success (with_reducible show wpAny _ _ (call (Value.ref _) _) _ _ _)); (fail_if_success (with_reducible show (ite _ _ _))); (fail_if_success (with_reducible show wpAny _ _ (subscriptTail _ _ (Value.ref _) (Value.ref _)) _ _ _)); walk1)))
        all_goals (try k_data)
        (with_reducible rename Fr _ _ _ _ => FR); (with_reducible rename News _ _ _ _ => NR)
        have hfl2 : fvs.length ≤ 1000 := Nat.le_trans hfl hnl
        have hfl3 : fvs.length ≤ 8 := by rw [hyl, List.length_take] at hfl; omega
        refine addL (vs := fvs) (ws := [_, _, _, _]) FR NR (NR.isList (by k_mem)) (NR.isList (by k_mem)) (by simp only [List.length_cons, List.length_nil]; omega) ?_
        intro DA h7 F7 N7 lDA
        clear FR NR
        (repeat' (first | (k_unfold; (try dsimp only)) | ((fail_if_success (with_reducible show wpAny _ _ (eval (PySem.Expr.ListComp _ _ _ _) _) _ _ _)); (fail_if_success (with_reducible show wpAny _ _ (exec (PySem.Stmt.Assign _ (PySem.Expr.ListComp _ _ _ _) _) _) _ _ _)); (fail_if_success (with_reducible show wpAny _ _ (binaryOp _ (Value.ref _) _) _ _ _)); (fail_if_success (with_reducible show wpAny _ _ (compareOp _ (Value.ref _) _) _ _ _)); (fail_if_success (with_reducible show wpAny _ _ (pyIter _) _ _ _)); (fail_if_success (with_reducible show wpAny _ _ (call (Value.ref _) _) _ _ _)); (fail_if_success (with_reducible show (ite _ _ _))); (fail_if_success (with_reducible show wpAny _ _ (subscriptTail _ _ (Value.ref _) (Value.ref _)) _ _ _)); walk1) | (dsimp only; (fail_if_success (with_reducible show wpAny _ _ (eval (PySem.Expr.ListComp _ _ _ _) _) _ _ _)); (fail_if_success (with_reducible show wpAny _ _ (exec (PySem.Stmt.Assign _ (PySem.Expr.ListComp _ _ _ _) _) _) _ _ _)); (fail_if_success (with_reducible show wpAny _ _ (binaryOp _ (Value.ref _) _) _ _ _)); (fail_if_success (with_reducible show wpAny _ _ (compareOp _ (Value.ref _) _) _ _ _)); (fail_if_success (with_reducible show wpAny _ _ (pyIter _) _ _ _)); (fail_if_success (with_reducible show wpAny _ _ (call (Value.ref _) _) _ _ _)); (fail_if_success (with_reducible show (ite _ _ _))); (fail_if_success (with_reducible show wpAny _ _ (subscriptTail _ _ (Value.ref _) (Value.ref _)) _ _ _)); walk1)))
        all_goals (try k_data)
        (with_reducible rename Fr _ _ _ _ => FR); (with_reducible rename News _ _ _ _ => NR)
        refine addL (vs := fvs ++ [_, _, _, _]) (ws := evs ++ [_, _]) FR NR (NR.isList (by k_mem)) (NR.isList (by k_mem)) (by simp only [List.length_cons, List.length_nil, List.length_append]; omega) ?_
        intro DB h8 F8 N8 lDB
        clear FR NR
        (repeat' (first | (k_unfold; (try dsimp only)) | ((fail_if_success (with_reducible show wpAny _ _ (eval (PySem.Expr.ListComp _ _ _ _) _) _ _ _)); (fail_if_success (with_reducible show wpAny _ _ (exec (PySem.Stmt.Assign _ (PySem.Expr.ListComp _ _ _ _) _) _) _ _ _)); (fail_if_success (with_reducible show wpAny _ _ (binaryOp _ (Value.ref _) _) _ _ _)); (fail_if_success (with_reducible show wpAny _ _ (compareOp _ (Value.ref _) _) _ _ _)); (fail_if_success (with_reducible show wpAny _ _ (pyIter _) _ _ _)); (fail_if_success (with_reducible show wpAny _ _ (call (Value.ref _) _) _ _ _)); (fail_if_success (with_reducible show (ite _ _ _))); (fail_if_success (with_reducible show wpAny _ _ (subscriptTail _ _ (Value.ref _) (Value.ref _)) _ _ _)); walk1) | (dsimp only; (fail_if_success (with_reducible show wpAny _ _ (eval (PySem.Expr.ListComp _ _ _ _) _) _ _ _)); (fail_if_success (with_reducible show wpAny _ _ (exec (PySem.Stmt.Assign _ (PySem.Expr.ListComp _ _ _ _) _) _) _ _ _)); (fail_if_success (with_reducible show wpAny _ _ (binaryOp _ (Value.ref _) _) _ _ _)); (fail_if_success (with_reducible show wpAny _ _ (compareOp _ (Value.ref _) _) _ _ _)); (fail_if_success (with_reducible show wpAny _ _ (pyIter _) _ _ _)); (fail_if_success (with_reducible show wpAny _ _ (call (Value.ref _) _) _ _ _)); (fail_if_success (with_reducible show (ite _ _ _))); (fail_if_success (with_reducible show wpAny _ _ (subscriptTail _ _ (Value.ref _) (Value.ref _)) _ _ _)); walk1)))
        all_goals (try k_data)
        (with_reducible rename Fr _ _ _ _ => FR); (with_reducible rename News _ _ _ _ => NR)
        have hql : qs.length ≤ 8 := by rw [hq1.1]; exact hel3
        have hrl : rs.length ≤ 8 := by rw [hr1.1]; exact hfl3
        have hl39 : ∀ p ∈ qs ++ left2, p ∈ names39 := all_app hq2 left2_in
        have ha40 : ∀ p ∈ (rs ++ asked4) ++ (qs ++ left2), p ∈ names40 := all_app (all_app (in40 hr2) asked4_in) (in40 hl39)
        have hll : (qs ++ left2).length ≤ 100 := by rw [List.length_append]; show qs.length + 2 ≤ 100; omega
        have hal : ((rs ++ asked4) ++ (qs ++ left2)).length ≤ 100 := by rw [List.length_append, List.length_append, List.length_append]; show rs.length + 4 + (qs.length + 2) ≤ 100; omega
        refine toldAt (asked := (rs ++ asked4) ++ (qs ++ left2)) (left := qs ++ left2) FR NR KX T ?d1 ?d2 (by k_mem) (by k_mem) ?hA ?hL hal hll ha40 hl39 ?_
        case d1 => decide
        case d2 => decide
        case hL =>
          refine listsU_app (listsU_more hq1 (fun q hq => by repeat (first | exact hq | apply List.Mem.tail))) ?_
          exact listsU_cons (by k_mem) strsV_three (listsU_cons (by k_mem) strsV_two listsU_nil)
        case hA =>
          refine listsU_app (listsU_app (listsU_more hr1 (fun q hq => by repeat (first | exact hq | apply List.Mem.tail))) ?_) (listsU_app (listsU_more hq1 (fun q hq => by repeat (first | exact hq | apply List.Mem.tail))) ?_)
          · exact listsU_cons (by k_mem) strsV_one (listsU_cons (by k_mem) strsV_one (listsU_cons (by k_mem) strsV_two (listsU_cons (by k_mem) strsV_four listsU_nil)))
          · exact listsU_cons (by k_mem) strsV_three (listsU_cons (by k_mem) strsV_two listsU_nil)
        intro DT tts tc h9 tk9 dr9 F9 N9 hT
        clear FR NR
        dsimp only
        (repeat' (first | (k_unfold; (try dsimp only)) | ((fail_if_success (with_reducible show wpAny _ _ (eval (PySem.Expr.ListComp _ _ _ _) _) _ _ _)); (fail_if_success (with_reducible show wpAny _ _ (exec (PySem.Stmt.Assign _ (PySem.Expr.ListComp _ _ _ _) _) _) _ _ _)); (fail_if_success (with_reducible show wpAny _ _ (binaryOp _ (Value.ref _) _) _ _ _)); (fail_if_success (with_reducible show wpAny _ _ (compareOp _ (Value.ref _) _) _ _ _)); (fail_if_success (with_reducible show wpAny _ _ (pyIter _) _ _ _)); (fail_if_success (with_reducible show wpAny _ _ (call (Value.ref _) _) _ _ _)); (fail_if_success (with_reducible show (ite _ _ _))); (fail_if_success (with_reducible show wpAny _ _ (subscriptTail _ _ (Value.ref _) (Value.ref _)) _ _ _)); walk1) | (dsimp only; (fail_if_success (with_reducible show wpAny _ _ (eval (PySem.Expr.ListComp _ _ _ _) _) _ _ _)); (fail_if_success (with_reducible show wpAny _ _ (exec (PySem.Stmt.Assign _ (PySem.Expr.ListComp _ _ _ _) _) _) _ _ _)); (fail_if_success (with_reducible show wpAny _ _ (binaryOp _ (Value.ref _) _) _ _ _)); (fail_if_success (with_reducible show wpAny _ _ (compareOp _ (Value.ref _) _) _ _ _)); (fail_if_success (with_reducible show wpAny _ _ (pyIter _) _ _ _)); (fail_if_success (with_reducible show wpAny _ _ (call (Value.ref _) _) _ _ _)); (fail_if_success (with_reducible show (ite _ _ _))); (fail_if_success (with_reducible show wpAny _ _ (subscriptTail _ _ (Value.ref _) (Value.ref _)) _ _ _)); walk1)))
        all_goals (try k_data)
        (with_reducible rename Fr _ _ _ _ => FR); (with_reducible rename News _ _ _ _ => NR)
        refine dueAt (asked := (rs ++ asked4) ++ (qs ++ left2)) (left := qs ++ left2) FR NR KX T ?d3 ?d4 (by k_mem) (by k_mem) ?hA2 ?hL2 hal hll ha40 hl39 ?_
        case d3 => decide
        case d4 => decide
        case hL2 =>
          refine listsU_app (listsU_more hq1 (fun q hq => by repeat (first | exact hq | apply List.Mem.tail))) ?_
          exact listsU_cons (by k_mem) strsV_three (listsU_cons (by k_mem) strsV_two listsU_nil)
        case hA2 =>
          refine listsU_app (listsU_app (listsU_more hr1 (fun q hq => by repeat (first | exact hq | apply List.Mem.tail))) ?_) (listsU_app (listsU_more hq1 (fun q hq => by repeat (first | exact hq | apply List.Mem.tail))) ?_)
          · exact listsU_cons (by k_mem) strsV_one (listsU_cons (by k_mem) strsV_one (listsU_cons (by k_mem) strsV_two (listsU_cons (by k_mem) strsV_four listsU_nil)))
          · exact listsU_cons (by k_mem) strsV_three (listsU_cons (by k_mem) strsV_two listsU_nil)
        intro DU uts uc hA0 tkA drA FA NA hkA hU
        have hT2 := rowsH_keep hT hkA
        clear FR NR
        dsimp only
        refine eqRows (c := tc) (d := uc) (NA.get (.tail _ (.head _))) (NA.get (.head _)) hT2 hU (by ke_room) ?_
        (repeat' (first | (k_unfold; (try dsimp only)) | ((fail_if_success (with_reducible show wpAny _ _ (eval (PySem.Expr.ListComp _ _ _ _) _) _ _ _)); (fail_if_success (with_reducible show wpAny _ _ (exec (PySem.Stmt.Assign _ (PySem.Expr.ListComp _ _ _ _) _) _) _ _ _)); (fail_if_success (with_reducible show wpAny _ _ (binaryOp _ (Value.ref _) _) _ _ _)); (fail_if_success (with_reducible show wpAny _ _ (compareOp _ (Value.ref _) _) _ _ _)); (fail_if_success (with_reducible show wpAny _ _ (pyIter _) _ _ _)); (fail_if_success (with_reducible show wpAny _ _ (call (Value.ref _) _) _ _ _)); (fail_if_success (with_reducible show (ite _ _ _))); (fail_if_success (with_reducible show wpAny _ _ (subscriptTail _ _ (Value.ref _) (Value.ref _)) _ _ _)); walk1) | (dsimp only; (fail_if_success (with_reducible show wpAny _ _ (eval (PySem.Expr.ListComp _ _ _ _) _) _ _ _)); (fail_if_success (with_reducible show wpAny _ _ (exec (PySem.Stmt.Assign _ (PySem.Expr.ListComp _ _ _ _) _) _) _ _ _)); (fail_if_success (with_reducible show wpAny _ _ (binaryOp _ (Value.ref _) _) _ _ _)); (fail_if_success (with_reducible show wpAny _ _ (compareOp _ (Value.ref _) _) _ _ _)); (fail_if_success (with_reducible show wpAny _ _ (pyIter _) _ _ _)); (fail_if_success (with_reducible show wpAny _ _ (call (Value.ref _) _) _ _ _)); (fail_if_success (with_reducible show (ite _ _ _))); (fail_if_success (with_reducible show wpAny _ _ (subscriptTail _ _ (Value.ref _) (Value.ref _)) _ _ _)); walk1)))
        all_goals (try k_data)
        (with_reducible rename Fr _ _ _ _ => FR)
        k_steps)
end Mine
end
theorem PySem.Challenge.cw_il0011_01_holds : PySem.Challenge.rw_il0011_01.Holds := by
  exact Mine.fin
