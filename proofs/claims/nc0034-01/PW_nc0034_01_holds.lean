import PyProof.Rows.All
import Wide.All
import OpenK.AllK
import Wide.FinOn
import PySem.Challenge.RW_nc0034_01
open PySem PySem.W PyProof.Rows
set_option Elab.async false
set_option maxRecDepth 100000
set_option maxHeartbeats 8000000
namespace Mine
noncomputable abbrev PG : Program := PySem.Challenge.rw_nc0034_01.row.prog
/-- the statements of the text that bind a def or a class -/
noncomputable def vw : Program := PySem.W.view PG [1, 3, 4, 5, 6, 7]
theorem opens : ∀ w : World, (fencedOpening treeTable PG w 2600).map (fun s => (s.heap, s.gens, s.drawn, s.toks)) = some (boot_heap w.params, Array.mk [], boot_drawn, boot_toks) :=
  boot_open (by kernel_rfl) (by decide) (fun s => by kernel_rfl)
/-- the opening is the boot's; so the head is what the top does from the boot on -/
theorem left_boot {p q : Program} {loose : List Str} {Xt : Shared → Bool} {α : Type} {Yf : Shared → α} {Ya : World → α} {N : Nat}
    (ho : ∀ w : World, (fencedOpening treeTable p w N).map (fun s => (s.heap, s.gens, s.drawn, s.toks)) = some (boot_heap w.params, Array.mk [], boot_drawn, boot_toks))
    (h : ∀ (w : World) (os : OsState), (topFrom treeTable p w N ⟨boot_heap w.params, Array.mk [], boot_drawn, boot_toks, os⟩).map (fun s => (openSeen q loose (importedModules p.main.body) Xt true s, Yf s)) = some (openGood q loose, Ya w)) :
    LeftO p q loose Xt Yf Ya N := fun w => by
  have x := ho w
  cases e : fencedOpening treeTable p w N with
  | none => rw [e] at x; cases x
  | some s =>
    obtain ⟨a, b, c, d, os⟩ := s
    rw [e] at x
    cases x
    show ((fencedOpening treeTable p w N).bind _).map _ = _
    rw [e]
    exact h w os
local macro_rules | `(tactic| o_head ($_f:ident $k $a $e)) => `(tactic| (
  refine holds_open (q := vw) (loose := ["AssignmentSet"]) (Xt := fun s => xlAt vw [] s && recOk (RowW.records PySem.Challenge.rw_nc0034_01.row.toRowW) s) (XP := XL vw [])
    (Yf := Hook.obs (kmHook $k $a $e [81])) (Ya := Hook.val (kmHook $k $a $e [81])) (YP := Hook.says (kmHook $k $a $e [81])) (N := 2600) ?hl (Hook.of (kmHook $k $a $e [81])) (Hook.keeps (kmHook $k $a $e [81]))
    (fun s e => xl_of s (Bool.and_eq_true_iff.mp e).1) XL.keeps (by rfl) (by rfl) (by rfl) (fun s e => recFacts_of (Bool.and_eq_true_iff.mp e).2) (by rfl) (by first | assumption | decide +kernel) (by decide +kernel) ⟨rfl, rfl, rfl, rfl, rfl, by decide +kernel⟩ ?hw ?hc
  case hl =>
    refine left_boot opens ?_
    intro w os; unfold topFrom; (try rw [PySem.W.Fast.te14082659384304107361]); (try rw [PySem.W.Fast.te4187177175401517315]); kernel_rfl))
theorem looks_ok : looksOpen PG = true := by decide +kernel
theorem row_ok : PySem.Challenge.rw_nc0034_01.row.wellSaid = true := by
  unfold OpenRow.wellSaid OpenRow.partSaid
  rw [looks_ok]
  decide +kernel
theorem law_said : PySem.Challenge.rw_nc0034_01.wellSaid = true := by
  unfold OpenLaw.wellSaid
  rw [row_ok]
  decide +kernel
local macro_rules | `(tactic| o_law) => `(tactic| refine holds_law law_said fun said => ?_)
open_top hd for PySem.Challenge.rw_nc0034_01
end Mine
open PySem PySem.W PySem.Calls PyProof.Rows
namespace Mine
noncomputable section
noncomputable abbrev PR : Program := PySem.Challenge.rw_nc0034_01.row.prog
noncomputable abbrev KK (w : World) : Frag := Mine.hd.heap_1 w.params
noncomputable def fdAt (w : World) (f : Addr) : FuncData := match (KK w).lookup f with | some ⟨_, _, .func fd, _⟩ => fd | _ => default
noncomputable def Keep (h h' : Heap) : Prop := ∀ b o, h.get? b = some o → h'.get? b = some o
theorem Keep.refl (h : Heap) : Keep h h := fun _ _ e => e
theorem Keep.trans {a b c : Heap} (x : Keep a b) (y : Keep b c) : Keep a c := fun _ _ e => y _ _ (x _ _ e)
/-- what stands at the ground -/
structure Good0 (w : World) (h : Heap) : Prop where
  X : (KK w).In h
  b : ∃ mb, h.Ns builtinsNs mb ∧ ∀ x : Str, x ≠ "__name__" → mb x = bootBuiltins x
  lim : h.NoLimit
  bm : ∃ ob, h.get? 4 = some ob ∧ ob.cls = .type "module" ∧ ob.dict = some builtinsNs ∧ ob.data = .plain
theorem Good0.keep {w : World} {h h' : Heap} (G : Good0 w h) (k : Keep h h') : Good0 w h' :=
  ⟨G.X.keeps k, (let ⟨mb, a, b⟩ := G.b; ⟨mb, a.keeps k, b⟩), G.lim.keeps k, let ⟨ob, a, r⟩ := G.bm; ⟨ob, k _ _ a, r⟩⟩
/-- a frame: L its locals, hb a heap that stands but for L -/
structure Fm (h₀ : Heap) (L : Addr) (hb h : Heap) (m : Str → Option Value) : Prop where
  ns : h.Ns L m
  ext : Heap.ExtBut L hb h
  base : Keep h₀ h
  low : h₀.get? L = none
theorem Keep.sameBut {h₀ h h' : Heap} {a : Addr} (k : Keep h₀ h) (s : Heap.SameBut a h h') (n : h₀.get? a = none) : Keep h₀ h' := fun b o e => by
  have : b ≠ a := fun q => by subst q; rw [n] at e; cases e
  exact (s.2 b this).trans (k b o e)
theorem Keep.push {h₀ h : Heap} (k : Keep h₀ h) (o : Obj) : Keep h₀ (h.push o) := fun _ _ e => Heap.get?_push_of_some _ (k _ _ e)
theorem Fm.set {h₀ hb h h' : Heap} {L : Addr} {m m' : Str → Option Value} (F : Fm h₀ L hb h m) (n : h'.Ns L m') (s : Heap.SameBut L h h') : Fm h₀ L hb h' m' :=
  ⟨n, F.ext.trans s.extBut, F.base.sameBut s F.low, F.low⟩
theorem Fm.push {h₀ hb h : Heap} {L : Addr} {m : Str → Option Value} (F : Fm h₀ L hb h m) (o : Obj) : Fm h₀ L hb (h.push o) m :=
  ⟨F.ns.push o, F.ext.push o, F.base.push o, F.low⟩
theorem Fm.keep {h₀ hb h h' : Heap} {L : Addr} {m : Str → Option Value} (F : Fm h₀ L hb h m) (k : Keep h h') : Fm h₀ L hb h' m :=
  ⟨F.ns.keeps k, fun b o n e => k _ _ (F.ext b o n e), F.base.trans k, F.low⟩
/-- the ground of comparison moves up -/
theorem Fm.here {h₀ hb h : Heap} {L : Addr} {m : Str → Option Value} (F : Fm h₀ L hb h m) : Fm h₀ L h h m := ⟨F.ns, Heap.ExtBut.refl _ _, F.base, F.low⟩
theorem Fm.at {h₀ hb h : Heap} {L b : Addr} {o : Obj} {m : Str → Option Value} (F : Fm h₀ L hb h m) (e : hb.get? b = some o) (n : b ≠ L) : h.get? b = some o := F.ext b o n e
section
variable {w : World} {A : Around} {E : Value → Shared → Prop} {h₀ hb h : Heap} {L : Addr} {m : Str → Option Value} {g : Array GenState} {dr : Drawn} {t : Nat} {os : OsState} {env : Env}
noncomputable abbrev MM (w : World) : Model := model PR w
theorem m_name {x : Str} {pos : Pos} {v : Value} {Q : Value → Shared → Prop} (F : Fm h₀ L hb h m) (hv : m x = some v) (hk : env.scope.kind = .function) (hL : env.locals = L) (hl : env.kindOf x = some .local)
    (k : Q v ⟨h, g, dr, t, os⟩) (hd : (x == ("__debug__" : Str)) = false := by decide) : wpAny (MM w) A (eval (.Name x pos) env) Q E ⟨h, g, dr, t, os⟩ :=
  wpAny_Name (wpAny_loadName_local hk hl (by rw [hL]; exact F.ns) hv k) hd
end
end
end Mine
namespace Mine
noncomputable section
noncomputable def fdOf (o : Obj) : FuncData := match o.data with | .func fd => fd | _ => default
noncomputable def bdOf (fd : FuncData) : List Stmt := match fd.body with | .stmts b => b | _ => []
structure FnIs (w : World) (f : Addr) (o : Obj) : Prop where
  at_ : (KK w).lookup f = some o
  data : o.data = .func (fdOf o)
  code : codeIn (KK w) (fdOf o).code (fdOf o).qualname = true
  body : (fdOf o).body = .stmts (bdOf (fdOf o))
  co : (fdOf o).scope.isCoroutine = false
  gen : (fdOf o).scope.isGenerator = false
  kind : (fdOf o).scope.kind = .function
-- by gen_fns.py
noncomputable def ob29 (w : World) : { o : Obj // (KK w).lookup 29 = some o } := ⟨_, rfl⟩
theorem fn29 (w : World) : FnIs w 29 (ob29 w).1 := ⟨(ob29 w).2, by kernel_rfl, by kernel_rfl, by kernel_rfl, by kernel_rfl, by kernel_rfl, by kernel_rfl⟩
noncomputable def ob36 (w : World) : { o : Obj // (KK w).lookup 36 = some o } := ⟨_, rfl⟩
theorem fn36 (w : World) : FnIs w 36 (ob36 w).1 := ⟨(ob36 w).2, by kernel_rfl, by kernel_rfl, by kernel_rfl, by kernel_rfl, by kernel_rfl, by kernel_rfl⟩
noncomputable def ob43 (w : World) : { o : Obj // (KK w).lookup 43 = some o } := ⟨_, rfl⟩
theorem fn43 (w : World) : FnIs w 43 (ob43 w).1 := ⟨(ob43 w).2, by kernel_rfl, by kernel_rfl, by kernel_rfl, by kernel_rfl, by kernel_rfl, by kernel_rfl⟩
noncomputable def ob50 (w : World) : { o : Obj // (KK w).lookup 50 = some o } := ⟨_, rfl⟩
theorem fn50 (w : World) : FnIs w 50 (ob50 w).1 := ⟨(ob50 w).2, by kernel_rfl, by kernel_rfl, by kernel_rfl, by kernel_rfl, by kernel_rfl, by kernel_rfl⟩
noncomputable def ob58 (w : World) : { o : Obj // (KK w).lookup 58 = some o } := ⟨_, rfl⟩
theorem fn58 (w : World) : FnIs w 58 (ob58 w).1 := ⟨(ob58 w).2, by kernel_rfl, by kernel_rfl, by kernel_rfl, by kernel_rfl, by kernel_rfl, by kernel_rfl⟩
noncomputable def ob65 (w : World) : { o : Obj // (KK w).lookup 65 = some o } := ⟨_, rfl⟩
theorem fn65 (w : World) : FnIs w 65 (ob65 w).1 := ⟨(ob65 w).2, by kernel_rfl, by kernel_rfl, by kernel_rfl, by kernel_rfl, by kernel_rfl, by kernel_rfl⟩
noncomputable def ob72 (w : World) : { o : Obj // (KK w).lookup 72 = some o } := ⟨_, rfl⟩
theorem fn72 (w : World) : FnIs w 72 (ob72 w).1 := ⟨(ob72 w).2, by kernel_rfl, by kernel_rfl, by kernel_rfl, by kernel_rfl, by kernel_rfl, by kernel_rfl⟩
noncomputable def ob79 (w : World) : { o : Obj // (KK w).lookup 79 = some o } := ⟨_, rfl⟩
theorem fn79 (w : World) : FnIs w 79 (ob79 w).1 := ⟨(ob79 w).2, by kernel_rfl, by kernel_rfl, by kernel_rfl, by kernel_rfl, by kernel_rfl, by kernel_rfl⟩
noncomputable def ob86 (w : World) : { o : Obj // (KK w).lookup 86 = some o } := ⟨_, rfl⟩
theorem fn86 (w : World) : FnIs w 86 (ob86 w).1 := ⟨(ob86 w).2, by kernel_rfl, by kernel_rfl, by kernel_rfl, by kernel_rfl, by kernel_rfl, by kernel_rfl⟩
noncomputable def ob93 (w : World) : { o : Obj // (KK w).lookup 93 = some o } := ⟨_, rfl⟩
theorem fn93 (w : World) : FnIs w 93 (ob93 w).1 := ⟨(ob93 w).2, by kernel_rfl, by kernel_rfl, by kernel_rfl, by kernel_rfl, by kernel_rfl, by kernel_rfl⟩
noncomputable def ob98 (w : World) : { o : Obj // (KK w).lookup 98 = some o } := ⟨_, rfl⟩
theorem fn98 (w : World) : FnIs w 98 (ob98 w).1 := ⟨(ob98 w).2, by kernel_rfl, by kernel_rfl, by kernel_rfl, by kernel_rfl, by kernel_rfl, by kernel_rfl⟩
noncomputable def ob103 (w : World) : { o : Obj // (KK w).lookup 103 = some o } := ⟨_, rfl⟩
theorem fn103 (w : World) : FnIs w 103 (ob103 w).1 := ⟨(ob103 w).2, by kernel_rfl, by kernel_rfl, by kernel_rfl, by kernel_rfl, by kernel_rfl, by kernel_rfl⟩
noncomputable def ob110 (w : World) : { o : Obj // (KK w).lookup 110 = some o } := ⟨_, rfl⟩
theorem fn110 (w : World) : FnIs w 110 (ob110 w).1 := ⟨(ob110 w).2, by kernel_rfl, by kernel_rfl, by kernel_rfl, by kernel_rfl, by kernel_rfl, by kernel_rfl⟩
noncomputable def ob115 (w : World) : { o : Obj // (KK w).lookup 115 = some o } := ⟨_, rfl⟩
theorem fn115 (w : World) : FnIs w 115 (ob115 w).1 := ⟨(ob115 w).2, by kernel_rfl, by kernel_rfl, by kernel_rfl, by kernel_rfl, by kernel_rfl, by kernel_rfl⟩
noncomputable def ob122 (w : World) : { o : Obj // (KK w).lookup 122 = some o } := ⟨_, rfl⟩
theorem fn122 (w : World) : FnIs w 122 (ob122 w).1 := ⟨(ob122 w).2, by kernel_rfl, by kernel_rfl, by kernel_rfl, by kernel_rfl, by kernel_rfl, by kernel_rfl⟩
noncomputable def ob129 (w : World) : { o : Obj // (KK w).lookup 129 = some o } := ⟨_, rfl⟩
theorem fn129 (w : World) : FnIs w 129 (ob129 w).1 := ⟨(ob129 w).2, by kernel_rfl, by kernel_rfl, by kernel_rfl, by kernel_rfl, by kernel_rfl, by kernel_rfl⟩
noncomputable def ob136 (w : World) : { o : Obj // (KK w).lookup 136 = some o } := ⟨_, rfl⟩
theorem fn136 (w : World) : FnIs w 136 (ob136 w).1 := ⟨(ob136 w).2, by kernel_rfl, by kernel_rfl, by kernel_rfl, by kernel_rfl, by kernel_rfl, by kernel_rfl⟩
noncomputable def ob143 (w : World) : { o : Obj // (KK w).lookup 143 = some o } := ⟨_, rfl⟩
theorem fn143 (w : World) : FnIs w 143 (ob143 w).1 := ⟨(ob143 w).2, by kernel_rfl, by kernel_rfl, by kernel_rfl, by kernel_rfl, by kernel_rfl, by kernel_rfl⟩
noncomputable def ob150 (w : World) : { o : Obj // (KK w).lookup 150 = some o } := ⟨_, rfl⟩
theorem fn150 (w : World) : FnIs w 150 (ob150 w).1 := ⟨(ob150 w).2, by kernel_rfl, by kernel_rfl, by kernel_rfl, by kernel_rfl, by kernel_rfl, by kernel_rfl⟩
noncomputable def ob158 (w : World) : { o : Obj // (KK w).lookup 158 = some o } := ⟨_, rfl⟩
theorem fn158 (w : World) : FnIs w 158 (ob158 w).1 := ⟨(ob158 w).2, by kernel_rfl, by kernel_rfl, by kernel_rfl, by kernel_rfl, by kernel_rfl, by kernel_rfl⟩
noncomputable def ob166 (w : World) : { o : Obj // (KK w).lookup 166 = some o } := ⟨_, rfl⟩
theorem fn166 (w : World) : FnIs w 166 (ob166 w).1 := ⟨(ob166 w).2, by kernel_rfl, by kernel_rfl, by kernel_rfl, by kernel_rfl, by kernel_rfl, by kernel_rfl⟩
noncomputable def ob181 (w : World) : { o : Obj // (KK w).lookup 181 = some o } := ⟨_, rfl⟩
theorem fn181 (w : World) : FnIs w 181 (ob181 w).1 := ⟨(ob181 w).2, by kernel_rfl, by kernel_rfl, by kernel_rfl, by kernel_rfl, by kernel_rfl, by kernel_rfl⟩
noncomputable def ob186 (w : World) : { o : Obj // (KK w).lookup 186 = some o } := ⟨_, rfl⟩
theorem fn186 (w : World) : FnIs w 186 (ob186 w).1 := ⟨(ob186 w).2, by kernel_rfl, by kernel_rfl, by kernel_rfl, by kernel_rfl, by kernel_rfl, by kernel_rfl⟩
noncomputable def ob193 (w : World) : { o : Obj // (KK w).lookup 193 = some o } := ⟨_, rfl⟩
theorem fn193 (w : World) : FnIs w 193 (ob193 w).1 := ⟨(ob193 w).2, by kernel_rfl, by kernel_rfl, by kernel_rfl, by kernel_rfl, by kernel_rfl, by kernel_rfl⟩
noncomputable def ob198 (w : World) : { o : Obj // (KK w).lookup 198 = some o } := ⟨_, rfl⟩
theorem fn198 (w : World) : FnIs w 198 (ob198 w).1 := ⟨(ob198 w).2, by kernel_rfl, by kernel_rfl, by kernel_rfl, by kernel_rfl, by kernel_rfl, by kernel_rfl⟩
noncomputable abbrev envA (o : Obj) (f L : Addr) : Env := callEnv (fdOf o) L f
theorem low_size {h₀ h : Heap} (k : Keep h₀ h) {a : Addr} (e : h.objs.size ≤ a) : h₀.get? a = none := by
  cases q : h₀.get? a with
  | none => rfl
  | some o => exact absurd (Heap.lt_size (k _ _ q)) (Nat.not_lt.mpr e)
/-- a namespace of at most n names -/
noncomputable def Nsz (h : Heap) (a : Addr) (m : Str → Option Value) (n : Nat) : Prop := ∃ o es ep, h.get? a = some o ∧ o.data = .dict es ep ∧ StrKeys es ∧ (∀ name, nsFind es name = m name) ∧ es.size ≤ n
theorem Nsz.ns {h : Heap} {a : Addr} {m : Str → Option Value} {n : Nat} (x : Nsz h a m n) : h.Ns a m := let ⟨o, es, ep, a, b, c, d, _⟩ := x; ⟨o, es, ep, a, b, c, d⟩
theorem Nsz.up {h : Heap} {a : Addr} {m : Str → Option Value} {n n' : Nat} (x : Nsz h a m n) (q : n ≤ n') : Nsz h a m n' := let ⟨o, es, ep, a, b, c, d, e⟩ := x; ⟨o, es, ep, a, b, c, d, Nat.le_trans e q⟩
theorem Nsz.at {h h' : Heap} {a : Addr} {m : Str → Option Value} {n : Nat} (x : Nsz h a m n) (k : ∀ o, h.get? a = some o → h'.get? a = some o) : Nsz h' a m n := let ⟨o, es, ep, a, r⟩ := x; ⟨o, es, ep, k _ a, r⟩
theorem m_nsSet {M : Model} {A : Around} {E : Value → Shared → Prop} {s : Shared} {a : Addr} {m : Str → Option Value} {n : Nat} {name : Str} {v : Value} {Q : Unit → Shared → Prop} (hn : Nsz s.heap a m n)
    (h : ∀ h', Nsz h' a (fun x => if x = name then some v else m x) (if (m name).isSome then n else n + 1) → Heap.SameBut a s.heap h' → Q () { s with heap := h', toks := s.toks + 1 }) :
    wpAny M A (nsSet a name v) Q E s := by
  obtain ⟨o, es, ep, ho, hd, hk, hm, hz⟩ := hn
  have hany : es.any (·.refKey) = false := by
    rw [Array.any_eq_false']; intro e he; obtain ⟨n, t, h⟩ := hk e he; simp [DictEntry.refKey, h]
  unfold nsSet strHash
  refine wpAny_bind (wpAny_bind (wpAny_askSetting (wpAny_pure (wpAny_bind (wpAny_mkText (wpAny_bind (wpAny_loadPart ho ?_)))))))
  rw [hd]
  dsimp only
  rw [aRefKeyMayBeTheName_at, hany, Bool.and_false]
  refine wpAny_updatePart ho (h _ ?_ (Heap.SameBut.update ..))
  obtain ⟨c, d, dt, sl⟩ := o
  subst hd
  have hmn := hm name
  unfold nsFind findBy at hmn
  cases hi : es.findIdx? (·.key.isStr name) with
  | some i =>
    have hs : (m name).isSome = true := by
      rw [← hmn, Option.isSome_map]
      obtain ⟨hlt, hp, _⟩ := Array.findIdx?_eq_some_iff_getElem.mp hi
      rw [Array.find?_isSome]
      exact ⟨_, Array.getElem_mem hlt, hp⟩
    rw [show (if (m name).isSome = true then n else n + 1) = n from by rw [hs]; rfl]
    refine ⟨_, _, ep, Heap.get?_update_self _ ho (by simp only [Obj.putName_eq, Obj.putNameByArray, hi]; rfl), by simp only [Obj.putName_eq, Obj.putNameByArray, hi]; rfl, hk.modify _ _, fun x => ?_, by rw [Array.size_modify]; exact hz⟩
    show _ = if x = name then some v else m x
    rw [← hm]; exact findBy_modify (fun n v => v.isStr n) Value.isStr_inj es name x v i hi
  | none =>
    have hs : (m name).isSome = false := by
      rw [← hmn, Option.isSome_map]
      cases q : es.find? (fun x => x.key.isStr name) with
      | none => rfl
      | some e => exact absurd (Array.find?_some q) (by simpa using Array.findIdx?_eq_none_iff.mp hi e (Array.mem_of_find?_eq_some q))
    rw [show (if (m name).isSome = true then n else n + 1) = n + 1 from by rw [hs]; rfl]
    refine ⟨_, _, ep + 1, Heap.get?_update_self _ ho (by simp only [Obj.putName_eq, Obj.putNameByArray, hi]; rfl), by simp only [Obj.putName_eq, Obj.putNameByArray, hi]; rfl, hk.push _ _ _ _, fun x => ?_, by rw [Array.size_push]; omega⟩
    show _ = if x = name then some v else m x
    rw [← hm]
    exact findBy_push (fun n v => v.isStr n) es name x _ _ v (fun y => by
      show (name == y) = decide (y = name)
      by_cases h : y = name
      · subst h; simp
      · have : ¬ name = y := fun e => h e.symm
        simp [h, this]) hi
section
variable {w : World} {A : Around} {E : Value → Shared → Prop} {h₀ hb h : Heap} {L : Addr} {m : Str → Option Value} {g : Array GenState} {dr : Drawn} {t : Nat} {os : OsState} {env : Env}
theorem m_call {f : Addr} {o : Obj} {args : List Value} {binds : List (Str × Value)} {Q : Value → Shared → Prop} (G : Good0 w h₀) (k : Keep h₀ h) (hroom : A.depth < recursionLimit) (fn : FnIs w f o)
    (nocell : ((fdOf o).scope.names.all fun x => x.2 != .cell) = true) (bt : BindsTo ⟨h, g, dr, t, os⟩ (fdOf o) ⟨args, []⟩ binds) (hloc : (binds.all fun x => decide ((fdOf o).scope.names.lookup x.1 = some .local)) = true)
    (body : ∀ h₁ t₁, Fm h₀ h.objs.size h h₁ (fun x => binds.reverse.lookup x) →
      wpAny (MM w) (A.deeper (envA o f h.objs.size)) (execs (bdOf (fdOf o)) (envA o f h.objs.size)) (fun fl s' => Q (match fl with | .ret v => v | _ => .none) s')
        (fun e s' => wpAny (MM w) (A.deeper (envA o f h.objs.size)) (leaving (envA o f h.objs.size) e) (fun _ s'' => E e s'') E s') ⟨h₁, g, dr, t₁, os⟩) :
    wpAny (MM w) A (call (.ref f) args) Q E ⟨h, g, dr, t, os⟩ := by
  have G' := G.keep k
  refine wpAny_call (codeAny_call_def hroom (G'.X _ _ fn.at_) fn.data G'.lim (codeRec_of G'.X fn.code) fn.body bt ?_ (locs hloc) (fun h₁ hn hk => ?_) fn.co fn.gen fn.kind)
  · intro x hx
    have := List.all_eq_true.mp nocell x hx
    simpa using this
  · refine wpAny_mono (body h₁ _ ⟨hn, fun b o _ e => hk b o e, k.trans hk, low_size k (Nat.le_refl _)⟩) (fun fl s' q => ?_) fun e s' q => q
    cases fl <;> exact q
theorem inst_at {x d : Addr} {f : Str → Option Value} (hx : h.get? x = some (instObj 170 d)) (hn : h.Ns d f) : ∃ od, InstAt h x (instObj 170 d) 170 (some od) ∧ ∀ name, lookIn name od = some (f name) := by
  obtain ⟨o, es, ep, ho, hd, hk, hf⟩ := hn
  refine ⟨o, ⟨hx, rfl, rfl, ho⟩, fun name => ?_⟩
  unfold lookIn
  rw [hd]
  dsimp only
  have := hf name
  unfold nsFind findBy at this
  rw [← Array.find?_toList] at this
  have hany : (es.toList.any (·.refKey)) = false := by
    rw [List.any_eq_false]; intro e he; obtain ⟨n, t, h⟩ := hk e (Array.mem_toList_iff.mp he); simp [DictEntry.refKey, h]
  cases q : es.toList.find? (·.key.isStr name) with
  | some e => rw [q] at this; dsimp only; rw [← this]; rfl
  | none => rw [q] at this; dsimp only; rw [hany, ← this]; rfl
theorem c_ga (w : World) : findIn (KK w) (.ref 170) "__getattribute__" = some (some (.builtin "object.__getattribute__")) := by kernel_rfl
theorem c_gt (w : World) : findIn (KK w) (.ref 170) "__getattr__" = some none := by kernel_rfl
theorem c_sa (w : World) : findIn (KK w) (.ref 170) "__setattr__" = some (some (.builtin "object.__setattr__")) := by kernel_rfl
noncomputable def cdC (w : World) : { c : ClassData // clsIn (KK w) 170 = some c } := ⟨_, rfl⟩
theorem c_dict (w : World) : (cdC w).1.hasDict = true := by kernel_rfl
theorem c_over (w : World) : plainOver (KK w) 170 = true := by kernel_rfl
theorem m_getattr {x d : Addr} {f : Str → Option Value} {name : Str} {v : Value} {ex : Bool} {Q : Value → Shared → Prop} (X : (KK w).In h) (hx : h.get? x = some (instObj 170 d)) (hn : h.Ns d f) (hv : f name = some v)
    (hc : findIn (KK w) (.ref 170) name = some none) (hh : handedIn v = true) (k : ∀ t', Q v ⟨h, g, dr, t', os⟩) : wpAny (MM w) A (getAttr (.ref x) name ex) Q E ⟨h, g, dr, t, os⟩ := by
  obtain ⟨od, I, hl⟩ := inst_at hx hn
  refine get_value (s := ⟨h, g, dr, t, os⟩) X I (c_ga w) ?_ hh (k _)
  unfold findObj
  rw [(cdC w).2, Option.bind_some, hc, Option.bind_some]
  dsimp only
  rw [Option.bind_some, Option.bind_some]
  unfold W.ownOf
  rw [c_dict, if_pos rfl]
  dsimp only
  rw [hl, hv]
  rfl
theorem m_setattr {x d : Addr} {f : Str → Option Value} {n : Nat} {name : Str} {v : Value} {Q : Unit → Shared → Prop} (X : (KK w).In h) (hx : h.get? x = some (instObj 170 d)) (hn : Nsz h d f n) (hsz : n < 1000)
    (hc : findIn (KK w) (.ref 170) name = some none)
    (k : ∀ h' t', Nsz h' d (fun y => if y = name then some v else f y) (if (f name).isSome then n else n + 1) → Heap.SameBut d h h' → Q () ⟨h', g, dr, t', os⟩) : wpAny (MM w) A (setAttr (.ref x) name v) Q E ⟨h, g, dr, t, os⟩ := by
  obtain ⟨od, I, hl⟩ := inst_at hx hn.ns
  refine set_plain (s := ⟨h, g, dr, t, os⟩) X I (c_sa w) ?_
  refine osa_open (s := ⟨h, g, dr, t + 1, os⟩) X I (c_over w) (r := none) (by unfold takerIn; rw [hc]; rfl) fun b => ?_
  obtain ⟨hx', hcl, hno, -⟩ := I
  refine wpAny_bind (wpAny_pure (wpAny_bind (wpAny_bind (wpAny_loadPart hx' (wpAny_bind ((looks_clsIn X (cdC w).2).here ?_))))))
  rw [c_dict]
  refine wpAny_pure (a := some d) (wpAny_bind (wpAny_pure (wpAny_bind ?_)))
  refine m_nsSet hn fun h' n' s' => ?_
  have k' := k h' (t + 1 + 1) n' s'
  obtain ⟨o, es, ep, ho, hd, _, _, hz⟩ := n'
  refine wpAny_bind (wpAny_lookBehind ho (by rw [hd]; refine pastItsLine_dict ?_; rw [sizeLine_eq]; split at hz <;> omega) (wpAny_pure k'))
theorem m_method {x d : Addr} {f : Str → Option Value} {name : Str} {fa : Addr} {pl : Sem Bool} {Q : Value × List Value → Shared → Prop} (X : (KK w).In h) (hx : h.get? x = some (instObj 170 d)) (hn : h.Ns d f) (hv : f name = none)
    (hc : findIn (KK w) (.ref 170) name = some (some (.ref fa))) (ht : typeIn (KK w) (.ref fa) = some (.type "function")) (k : Q (.ref fa, [.ref x]) ⟨h, g, dr, t, os⟩) :
    wpAny (MM w) A (getMethod (.ref x) name pl) Q E ⟨h, g, dr, t, os⟩ := by
  obtain ⟨od, I, hl⟩ := inst_at hx hn
  exact method_fn (s := ⟨h, g, dr, t, os⟩) X I (c_ga w) (c_gt w) hc ht (by unfold shadowIn; dsimp only; rw [hl, hv]; rfl) k
theorem m_store {x : Str} {v : Value} {Q : Unit → Shared → Prop} (F : Fm h₀ L hb h m) (hL : env.locals = L) (hl : env.kindOf x = some .local)
    (k : ∀ h' t', Fm h₀ L hb h' (fun y => if y = x then some v else m y) → Q () ⟨h', g, dr, t', os⟩)
    (hp : (env.scope.kind == .class || (env.scope.kind == .module && env.locals != env.globals)) = false := by rfl) : wpAny (MM w) A (storeName env x v) Q E ⟨h, g, dr, t, os⟩ := by
  subst hL
  exact wpAny_storeName_local hl F.ns (fun h' hn hs => k h' _ (F.set hn hs)) hp
theorem m_glob {x : Str} {pos : Pos} {v : Value} {Q : Value → Shared → Prop} (G : Good0 w h₀) (F : Fm h₀ L hb h m) (hv : nsIn (KK w) mainGlobals x = some (some v)) (hk : env.scope.kind = .function) (hg : env.globals = mainGlobals)
    (hx : env.kindOf x = some .globalImplicit) (k : Q v ⟨h, g, dr, t, os⟩) (hd : (x == ("__debug__" : Str)) = false := by decide) : wpAny (MM w) A (eval (.Name x pos) env) Q E ⟨h, g, dr, t, os⟩ := by
  refine Name_function_global hk hx ?_ hd
  unfold loadGlobal
  rw [hg]
  refine wpAny_bind ((looks_nsIn (G.X.keeps F.base) hv).here ?_)
  exact wpAny_pure k
theorem m_builtin {x : Str} {pos : Pos} {v : Value} {Q : Value → Shared → Prop} (G : Good0 w h₀) (F : Fm h₀ L hb h m) (hv : bootBuiltins x = some v) (hm : nsIn (KK w) mainGlobals x = some none) (hk : env.scope.kind = .function)
    (hg : env.globals = mainGlobals) (hb' : env.builtins = builtinsNs) (hx : env.kindOf x = some .globalImplicit) (k : Q v ⟨h, g, dr, t, os⟩) (hn : x ≠ "__name__" := by decide) (hd : (x == ("__debug__" : Str)) = false := by decide) :
    wpAny (MM w) A (eval (.Name x pos) env) Q E ⟨h, g, dr, t, os⟩ := by
  refine Name_function_global hk hx ?_ hd
  obtain ⟨mb, hmb, hbb⟩ := (G.keep F.base).b
  unfold loadGlobal
  rw [hg]
  refine wpAny_bind ((looks_nsIn (G.X.keeps F.base) hm).here ?_)
  dsimp only
  rw [hb']
  refine wpAny_bind (wpAny_nsGet hmb ?_)
  rw [hbb x hn, hv]
  exact wpAny_pure k
end
end
end Mine
namespace Mine
noncomputable section
noncomputable abbrev SSt := List Nat × List Nat × List Int
-- by gen_rr.py
noncomputable def RR : List SSt := [
  ([], [], []),
  ([3], [], [3]),
  ([0], [], [8]),
  ([0], [], [16]),
  ([0, 3], [], [8, 3]),
  ([0, 3], [], [16, 3]),
  ([], [3], []),
  ([0, 1], [], [8, 16]),
  ([], [0], []),
  ([0, 1], [], [16, 8]),
  ([0, 1, 3], [], [8, 16, 3]),
  ([0], [3], [8]),
  ([3], [0], [3]),
  ([0, 1, 3], [], [16, 8, 3]),
  ([0], [3], [16]),
  ([1], [0], [16]),
  ([0], [1], [8]),
  ([0], [1], [16]),
  ([1], [0], [8]),
  ([0, 1], [3], [8, 16]),
  ([1, 3], [0], [16, 3]),
  ([0, 3], [1], [8, 3]),
  ([], [0, 3], []),
  ([0, 1], [3], [16, 8]),
  ([0, 3], [1], [16, 3]),
  ([1, 3], [0], [8, 3]),
  ([], [0, 1], []),
  ([1], [0, 3], [16]),
  ([0], [1, 3], [8]),
  ([3], [0, 1], [3]),
  ([0], [3], [3]),
  ([0], [1, 3], [16]),
  ([1], [0, 3], [8]),
  ([0, 1], [3], [3, 16]),
  ([], [0, 1, 3], []),
  ([0, 1], [3], [8, 3]),
  ([0, 1], [3], [3, 8]),
  ([0, 1], [3], [16, 3]),
  ([0, 1, 6], [3], [3, 16, 8]),
  ([0], [1, 3], [3]),
  ([1], [0, 3], [3]),
  ([0, 1, 6], [3], [8, 3, 16]),
  ([0, 1, 6], [3], [3, 8, 16]),
  ([0, 1, 6], [3], [16, 3, 8]),
  ([1, 6], [0, 3], [16, 8]),
  ([0, 1], [3, 6], [3, 16]),
  ([0, 6], [1, 3], [3, 8]),
  ([0, 6], [1, 3], [8, 16]),
  ([1, 6], [0, 3], [3, 16]),
  ([0, 1], [3, 6], [8, 3]),
  ([1, 6], [0, 3], [8, 16]),
  ([0, 6], [1, 3], [3, 16]),
  ([0, 1], [3, 6], [3, 8]),
  ([0, 6], [1, 3], [16, 8]),
  ([0, 1], [3, 6], [16, 3]),
  ([1, 6], [0, 3], [3, 8]),
  ([1], [0, 3, 6], [16]),
  ([6], [0, 1, 3], [8]),
  ([0], [1, 3, 6], [3]),
  ([6], [0, 1, 3], [16]),
  ([0], [1, 3, 6], [8]),
  ([1], [0, 3, 6], [3]),
  ([1], [0, 3, 6], [8]),
  ([0], [1, 3, 6], [16]),
  ([1, 6], [0, 3], [16, 3]),
  ([], [0, 1, 3, 6], []),
  ([0, 6], [1, 3], [8, 3]),
  ([1, 6], [0, 3], [8, 3]),
  ([0, 6], [1, 3], [16, 3]),
  ([0, 1, 6], [3], [8, 16, 3]),
  ([6], [0, 1, 3], [3]),
  ([0, 1, 6], [3], [16, 8, 3]),
  ([0, 1], [3, 6], [8, 16]),
  ([0, 1], [3, 6], [16, 8])]
noncomputable def tabOf (st : SSt) (fg : Nat) (l : Bool) (mv : Nat) : SetTable := { mask := 7, place := st.1.toArray, dummies := st.2.1.toArray, finger := fg, led := l, moves := mv, plain := true }
noncomputable abbrev byT (w : World) : Bool := w.params.followText "set-order"
noncomputable abbrev K3 : List Int := [3, 8, 16]
structure SetD (w : World) (o : Obj) (st : SSt) (es : Array (Int × Value)) (ep fg mv : Nat) : Prop where
  mem : st ∈ RR
  ex : o.ExactSet
  data : o.data = .set es ep (tabOf st fg (!byT w) mv)
  keys : es.toList.map (·.1) = st.2.2
  allInt : ∀ e ∈ es.toList, ∃ tk, e.2 = .int e.1 tk
noncomputable def SetI (w : World) (h : Heap) (a : Addr) (χ : Int → Bool) : Prop :=
  ∃ o st es ep fg mv, h.get? a = some o ∧ SetD w o st es ep fg mv ∧ ∀ k, χ k = st.2.2.contains k
theorem SetI.at {w : World} {h h' : Heap} {a : Addr} {χ : Int → Bool} (x : SetI w h a χ) (k : ∀ o, h.get? a = some o → h'.get? a = some o) : SetI w h' a χ :=
  let ⟨o, st, es, ep, fg, mv, ho, r⟩ := x; ⟨o, st, es, ep, fg, mv, k _ ho, r⟩
theorem SetI.congr {w : World} {h : Heap} {a : Addr} {χ χ' : Int → Bool} (x : SetI w h a χ) (e : ∀ k, χ' k = χ k) : SetI w h a χ' :=
  let ⟨o, st, es, ep, fg, mv, ho, d, r⟩ := x; ⟨o, st, es, ep, fg, mv, ho, d, fun k => (e k).trans (r k)⟩
theorem ck_keys : (RR.all fun st => st.2.2.all (fun k => K3.contains k && (hashInt k == k)) && decide st.2.2.Nodup && decide (st.2.2.length ≤ 3)) = true := by decide +kernel
theorem ck_fits (fg : Nat) (l : Bool) (mv : Nat) : (RR.all fun st => (tabOf st fg l mv).fits st.2.2.length) = true := by kernel_rfl
theorem ck_add (fg : Nat) (l : Bool) (mv : Nat) : (RR.all fun st => K3.all fun k => st.2.2.contains k || (match (tabOf st fg l mv).freeSlot (hashInt k) with
   | some (slot, wd) => RR.contains (((tabOf st fg l mv).put slot).1.place.toList, ((tabOf st fg l mv).put slot).1.dummies.toList, (SetTable.insertAt st.2.2.toArray ((tabOf st fg l mv).put slot).2 k).toList) &&
       ((tabOf st fg l mv).put slot).1.fits (st.2.2.length + 1) && (wd || !((tabOf st fg l mv).put slot).1.tooFull)
   | none => false)) = true := by kernel_rfl
theorem ck_drop (fg : Nat) (l : Bool) (mv : Nat) : (RR.all fun st => (List.range st.2.2.length).all fun i => RR.contains (((tabOf st fg l mv).drop i).place.toList, ((tabOf st fg l mv).drop i).dummies.toList, (SetTable.eraseAt st.2.2.toArray i).toList) &&
    ((tabOf st fg l mv).drop i).fits (st.2.2.length - 1)) = true := by kernel_rfl
theorem hash3 {k : Int} (hk : k ∈ K3) : hashInt k = k := by
  simp only [K3, List.mem_cons, List.not_mem_nil, or_false] at hk
  rcases hk with rfl | rfl | rfl <;> decide +kernel
theorem SetD.k3 {w : World} {o : Obj} {st : SSt} {es : Array (Int × Value)} {ep fg mv : Nat} (x : SetD w o st es ep fg mv) : ∀ k ∈ st.2.2, k ∈ K3 := by
  intro k hk
  have := List.all_eq_true.mp ck_keys st x.mem
  simp only [Bool.and_eq_true, List.all_eq_true] at this
  exact List.contains_iff_mem.mp (this.1.1 k hk).1
theorem SetD.nd {w : World} {o : Obj} {st : SSt} {es : Array (Int × Value)} {ep fg mv : Nat} (x : SetD w o st es ep fg mv) : st.2.2.Nodup := by
  have := List.all_eq_true.mp ck_keys st x.mem
  simp only [Bool.and_eq_true, decide_eq_true_eq] at this
  exact this.1.2
theorem SetD.size {w : World} {o : Obj} {st : SSt} {es : Array (Int × Value)} {ep fg mv : Nat} (x : SetD w o st es ep fg mv) : es.size = st.2.2.length := by
  rw [← x.keys, List.length_map, Array.length_toList]
theorem SetD.le3 {w : World} {o : Obj} {st : SSt} {es : Array (Int × Value)} {ep fg mv : Nat} (x : SetD w o st es ep fg mv) : es.size ≤ 3 := by
  rw [x.size]
  have := List.all_eq_true.mp ck_keys st x.mem
  simp only [Bool.and_eq_true, decide_eq_true_eq] at this
  exact this.2
theorem SetD.fits {w : World} {o : Obj} {st : SSt} {es : Array (Int × Value)} {ep fg mv : Nat} (x : SetD w o st es ep fg mv) : (tabOf st fg (!byT w) mv).fits es.size = true := by
  rw [x.size]
  exact List.all_eq_true.mp (ck_fits fg _ mv) st x.mem
theorem SetD.elems {w : World} {o : Obj} {st : SSt} {es : Array (Int × Value)} {ep fg mv : Nat} (x : SetD w o st es ep fg mv) : ElemsOf (intKind PR w) es.toList := by
  intro e he
  obtain ⟨tk, q⟩ := x.allInt e he
  have : e.1 ∈ st.2.2 := by rw [← x.keys]; exact List.mem_map_of_mem he
  refine ⟨⟨e.1, by rw [q]; exact intKind_is PR w e.1 tk, (hash3 (x.k3 _ this)).symm⟩, by rw [q]; rfl⟩
theorem SetD.bound {w : World} {o : Obj} {st : SSt} {es : Array (Int × Value)} {ep fg mv : Nat} (x : SetD w o st es ep fg mv) : es.size < scanBound := by
  have := x.le3
  show _ < 4096
  omega
theorem isInt_iff {k : Int} {v : Value} : (Value.isInt k v = true) ↔ ∃ tk, v = .int k tk := by
  constructor
  · exact Value.isInt_shape
  · rintro ⟨tk, rfl⟩; simp [Value.isInt]
theorem SetD.has {w : World} {o : Obj} {st : SSt} {es : Array (Int × Value)} {ep fg mv : Nat} (x : SetD w o st es ep fg mv) (k : Int) : st.2.2.contains k = true ↔ ∃ e ∈ es.toList, (intKind PR w).is k e.2 = true := by
  rw [List.contains_iff_mem, ← x.keys, List.mem_map]
  constructor
  · rintro ⟨e, he, rfl⟩
    obtain ⟨tk, q⟩ := x.allInt e he
    exact ⟨e, he, by rw [q]; exact intKind_is PR w e.1 tk⟩
  · rintro ⟨e, he, q⟩
    obtain ⟨tk, q'⟩ := x.allInt e he
    obtain ⟨tk', q''⟩ := isInt_iff.mp q
    rw [q'] at q''
    cases q''
    exact ⟨e, he, rfl⟩
theorem SetI.setOf {w : World} {h : Heap} {a : Addr} {χ : Int → Bool} (x : SetI w h a χ) : ∃ n, n ≤ 3 ∧ h.SetOf (intKind PR w) a χ n := by
  obtain ⟨o, st, es, ep, fg, mv, ho, d, r⟩ := x
  exact ⟨es.size, d.le3, o, es, ep, _, ho, d.ex, d.data, d.elems, fun k => by rw [r k]; exact d.has k, d.bound, d.fits, rfl⟩
theorem insertAt_list {α : Type} (xs : Array α) (p : Nat) (x : α) : (SetTable.insertAt xs p x).toList = xs.toList.take p ++ x :: xs.toList.drop p := by
  unfold SetTable.insertAt
  simp only [Array.toList_append, Array.toList_push, Array.toList_extract, List.extract_eq_take_drop, List.drop_zero, Nat.sub_zero, List.append_assoc, List.singleton_append]
  rw [List.take_of_length_le (l := xs.toList.drop p) (by rw [List.length_drop, Array.length_toList]; exact Nat.le_refl _)]
theorem eraseAt_list {α : Type} (xs : Array α) (p : Nat) : (SetTable.eraseAt xs p).toList = xs.toList.take p ++ xs.toList.drop (p + 1) := by
  unfold SetTable.eraseAt
  simp only [Array.toList_append, Array.toList_extract, List.extract_eq_take_drop, List.drop_zero, Nat.sub_zero]
  rw [List.take_of_length_le (l := xs.toList.drop (p + 1)) (by rw [List.length_drop, Array.length_toList]; exact Nat.le_refl _)]
section
variable {w : World} {A : Around} {E : Value → Shared → Prop} {h : Heap} {a : Addr} {g : Array GenState} {dr : Drawn} {t : Nat} {os : OsState} {χ : Int → Bool} {k : Int} {tk : Tok}
theorem m_setAddHashed {Q : Bool → Shared → Prop} (hS : SetI w h a χ) (hk : k ∈ K3) (kk : ∀ h', Heap.SameBut a h h' → SetI w h' a (fun j => χ j || j == k) → Q (!χ k) ⟨h', g, dr, t, os⟩) :
    wpAny (MM w) A (setAddHashed a (.int k tk) (hashInt k)) Q E ⟨h, g, dr, t, os⟩ := by
  obtain ⟨o, st, es, ep, fg, mv, ho, d, r⟩ := hS
  unfold setAddHashed setAddHashedIn
  refine wpAny_holding (wpAny_bind (wpAny_setState_of (s := ⟨h, g, dr, t, os⟩) ho d.data d.fits ?_))
  dsimp only
  rw [byScan_of (x := .int k tk) rfl d.bound d.elems]
  simp only [↓reduceIte]
  unfold setAddByScan
  refine wpAny_bind ?_
  refine wpAny_bind (wpAny_rule ?_)
  refine wpAny_bind (wpAny_setScan_of (knd := intKind PR w) (intKind_is PR w k tk) ho d.data d.fits d.elems ?_)
  cases hr : List.findIdx? (fun e => (intKind PR w).is k e.2) es.toList with
  | some j =>
    dsimp only
    obtain ⟨hj, hpj, _⟩ := List.findIdx?_eq_some_iff_getElem.mp hr
    have hc : χ k = true := by rw [r k, d.has]; exact ⟨_, List.getElem_mem hj, hpj⟩
    refine wpAny_pure (wpAny_pure ?_)
    have := kk h (Heap.SameBut.refl _ _) ⟨o, st, es, ep, fg, mv, ho, d, fun j => by
      rw [← r j]
      by_cases q : j = k
      · subst q; show (χ j || j == j) = _; rw [hc]; rfl
      · show (χ j || j == k) = _; rw [beq_false_of_ne q, Bool.or_false]⟩
    rw [hc] at this
    exact this
  | none =>
    dsimp only
    have hc : st.2.2.contains k = false := by
      cases q : st.2.2.contains k with
      | false => rfl
      | true =>
        obtain ⟨e, he, hp⟩ := (d.has k).mp q
        have := List.findIdx?_eq_none_iff.mp hr e he
        rw [hp] at this; cases this
    have C := List.all_eq_true.mp (List.all_eq_true.mp (ck_add fg (!byT w) mv) st d.mem) k hk
    rw [hc, Bool.false_or] at C
    split at C
    · rename_i slot wd hfs
      simp only [Bool.and_eq_true] at C
      obtain ⟨⟨C1, C2⟩, C3⟩ := C
      have C1 := List.contains_iff_mem.mp C1
      have hz : (SetTable.insertAt es ((tabOf st fg (!byT w) mv).put slot).2 (hashInt k, Value.int k tk)).size = st.2.2.length + 1 := by
        rw [← Array.length_toList, insertAt_list, List.length_append, List.length_cons, List.length_take, List.length_drop, Array.length_toList, d.size]
        omega
      have hl : layNew (tabOf st fg (!byT w) mv) es (hashInt k) (.int k tk) = (SetTable.insertAt es ((tabOf st fg (!byT w) mv).put slot).2 (hashInt k, .int k tk), ((tabOf st fg (!byT w) mv).put slot).1, wd, false) := by
        unfold layNew
        rw [hfs]
        dsimp only
        unfold SetTable.orStandIn
        rw [hz, C2, if_pos rfl]
        rfl
      rw [hl]
      dsimp only
      refine wpAny_bind (wpAny_pure ?_)
      rw [show ((tabOf st fg (!byT w) mv).put slot).1.plain = true from rfl, if_pos rfl]
      refine wpAny_bind ?_
      rw [hashByValue_scannable 8 (x := .int k tk) rfl]
      refine wpAny_pure ?_
      rw [show plainKind (.int k tk) = true from rfl, if_pos rfl]
      refine wpAny_bind (wpAny_storeSet_of ho d.data ?_ (by rw [hz, ← d.size]; have := d.le3; rw [sizeLine_eq]; omega))
      have hno : ¬ ((!wd && ((tabOf st fg (!byT w) mv).put slot).1.tooFull) = true) := by
        cases wd <;> simp_all
      rw [if_neg hno]
      refine wpAny_pure (wpAny_pure ?_)
      have hχ : χ k = false := by rw [r k, hc]
      have fin := kk (h.update a (Obj.putSet (SetTable.insertAt es ((tabOf st fg (!byT w) mv).put slot).2 (hashInt k, Value.int k tk)) ((tabOf st fg (!byT w) mv).put slot).1)) (Heap.SameBut.update ..) ?_
      · rw [hχ] at fin; exact fin
      · refine ⟨{ o with data := .set (SetTable.insertAt es ((tabOf st fg (!byT w) mv).put slot).2 (hashInt k, Value.int k tk)) (ep + 1) ((tabOf st fg (!byT w) mv).put slot).1 }, _, SetTable.insertAt es ((tabOf st fg (!byT w) mv).put slot).2 (hashInt k, Value.int k tk), ep + 1, fg, mv, ?_, ⟨C1, d.ex, ?_, ?_, ?_⟩, ?_⟩
        · have := Heap.get?_update_self (Obj.putSet (SetTable.insertAt es ((tabOf st fg (!byT w) mv).put slot).2 (hashInt k, Value.int k tk)) ((tabOf st fg (!byT w) mv).put slot).1) ho (by rw [putSet_of _ _ d.data]; rfl)
          rw [putSet_of _ _ d.data] at this; exact this
        · show Data.set _ _ _ = Data.set _ _ _
          congr 1
        · dsimp only
          rw [insertAt_list, insertAt_list, List.map_append, List.map_cons, List.map_take, List.map_drop, d.keys, hash3 hk]
        · intro e he
          rw [insertAt_list, List.mem_append, List.mem_cons] at he
          rcases he with he | rfl | he
          · exact d.allInt e (List.mem_of_mem_take he)
          · exact ⟨tk, by rw [hash3 hk]⟩
          · exact d.allInt e (List.mem_of_mem_drop he)
        · intro j
          dsimp only
          rw [r j, insertAt_list, Bool.eq_iff_iff, List.contains_iff_mem, List.mem_append, List.mem_cons, Bool.or_eq_true, List.contains_iff_mem, beq_iff_eq]
          show j ∈ st.2.2 ∨ j = k ↔ j ∈ st.2.2.take _ ∨ j = k ∨ j ∈ st.2.2.drop _
          rw [← List.take_append_drop (((tabOf st fg (!byT w) mv).put slot).2) st.2.2, List.mem_append]
          simp only [List.take_append_drop]
          constructor
          · rintro ((q | q) | q)
            · exact .inl q
            · exact .inr (.inr q)
            · exact .inr (.inl q)
          · rintro (q | q | q)
            · exact .inl (.inl q)
            · exact .inr q
            · exact .inl (.inr q)
    · cases C
end
end
end Mine
namespace Mine
noncomputable section
noncomputable def newSetObj (w : World) : Obj := { cls := .type "set", dict := none, data := .set #[] 0 (.fresh 0 0 (!byT w)) }
theorem newSet_setI (w : World) (h : Heap) : SetI w (h.push (newSetObj w)) h.objs.size (fun _ => false) :=
  ⟨newSetObj w, ([], [], []), #[], 0, 0, 0, Heap.get?_push_size _ rfl, ⟨by decide +kernel, ⟨rfl, rfl, rfl⟩, rfl, rfl, fun e he => by simp at he⟩, fun _ => rfl⟩
section
variable {w : World} {A : Around} {E : Value → Shared → Prop} {h : Heap} {a : Addr} {g : Array GenState} {dr : Drawn} {t : Nat} {os : OsState} {χ : Int → Bool} {k : Int} {tk : Tok}
theorem m_newSetObj {Q : Value → Shared → Prop} (kk : Q (.ref h.objs.size) ⟨h.push (newSetObj w), g, dr, t, os⟩) : wpAny (MM w) A (newSet (.type "set")) Q E ⟨h, g, dr, t, os⟩ := by
  unfold newSet setsByText
  refine wpAny_bind (wpAny_bind (wpAny_askSetting (wpAny_pure ?_)))
  dsimp only
  simp only [newObj]
  exact wpAny_bind (wpAny_alloc (wpAny_pure kk))
theorem s_code_new {Q₁ : Value → Shared → Prop} (kk : Q₁ (.ref h.objs.size) ⟨h.push (newSetObj w), g, dr, t, os⟩) :
    codeAny (MM w) A (.call (.builtin "set.__new__") ⟨[.type "set"], []⟩) (wants Q₁ E) ⟨h, g, dr, t, os⟩ := by
  refine codeAny_of_tree ?_
  show wpAny _ A.in1 (do checkBuiltinCall "set.__new__" ⟨[.type "set"], []⟩; again (.builtin "set.__new__" ⟨[.type "set"], []⟩)) _ _ _
  refine wpAny_bind (wpAny_of_eq F.newCall_set_0 (wpAny_pure ⟨plainId_quiet F.plain_set_new _, codeAny_builtin F.entry_set_new ?_⟩))
  rw [Around.under_plainId F.plain_set_new _]
  unfold Builtin.«set.__new__» Builtin.Frozenset.newClass
  have hsub := sub_set_self
  dsimp only
  wp_walk
  refine wpAny_askSetting (wpAny_pure ?_)
  dsimp only
  simp only [newObj]
  refine wpAny_bind (wpAny_alloc (wpAny_pure ?_))
  exact wpAny_pure kk
set_option maxRecDepth 100000 in
theorem m_set0 {Q : Value → Shared → Prop} (kk : Q (.ref h.objs.size) ⟨h.push (newSetObj w), g, dr, t, os⟩) : wpAny (MM w) A (call (.type "set") []) Q E ⟨h, g, dr, t, os⟩ := by
  obtain ⟨c, tl, hmro⟩ := F.called_set.mro
  have hmade := F.called_set.made
  have hsub := F.called_set.sub
  refine wpAny_call (codeAny_of_tree ?_)
  show wpAny _ _ (callAny (.type "set") _) _ _ _
  refine wpAny_pure ⟨Code.quiet_builtin _ (by decide +kernel), codeAny_builtin F.entry_type_call ?_⟩
  rw [Around.under_plain (weight_type_call_type "set" [] []) rfl]
  have h1 := F.called_set.notType
  have h2 := F.called_set.canCreate
  have hct := F.typeCall_set_0
  repeat (any_goals (first | assumption | wp_step))
  refine codeAny_mono (s_code_new (E := E) (Q₁ := fun obj s₁ => obj = .ref h.objs.size ∧ s₁ = ⟨h.push (newSetObj w), g, dr, t, os⟩) ⟨rfl, rfl⟩) fun r s₁ hr => ?_
  cases r with
  | error e => exact hr
  | ok fl =>
    cases fl with
    | ret obj =>
      obtain ⟨rfl, rfl⟩ := hr
      have hS : (h.push (newSetObj w)).get? h.objs.size = some (newSetObj w) := Heap.get?_push_size _ rfl
      have hT : Shared.TypeIs ⟨h.push (newSetObj w), g, dr, t, os⟩ (.ref h.objs.size) "set" := ⟨_, hS, rfl⟩
      have hli := F.called_set.init.lookup
      have hbi := F.called_set.init.bind (.ref h.objs.size)
      repeat (any_goals (first | assumption | wp_step))
      refine codeAny_mono (codeAny_call_builtin (R := wants (fun r s₂ => r = .none ∧ Q (.ref h.objs.size) s₂) E) F.called_set.init.plain F.entry_set_init (check_set_init hT ?_)) fun r₂ s₂ hr₂ => ?_
      · unfold Builtin.«set.__init__» noKeywords setUsed Builtin.Frozenset.addrOf
        dsimp only [newSetObj] at hS
        wp_walk
        exact ⟨rfl, kk⟩
      · cases r₂ with
        | error e => exact hr₂
        | ok fl₂ =>
          cases fl₂ with
          | ret r =>
            obtain ⟨rfl, hq⟩ := hr₂
            repeat (any_goals (first | assumption | wp_step))
          | _ => exact hr₂.elim
    | _ => exact hr.elim
end
end
end Mine
namespace Mine
noncomputable section
section
variable {w : World} {A : Around} {E : Value → Shared → Prop} {h : Heap} {a : Addr} {g : Array GenState} {dr : Drawn} {t : Nat} {os : OsState} {χ : Int → Bool} {k : Int} {tk : Tok}
theorem SetI.typeIs (x : SetI w h a χ) : Shared.TypeIs ⟨h, g, dr, t, os⟩ (.ref a) "set" := let ⟨o, _, _, _, _, _, ho, d, _⟩ := x; ⟨o, ho, d.ex.1⟩
theorem SetI.noDict (x : SetI w h a χ) : ∀ b, Value.ref a = .ref b → ∃ ob, h.get? b = some ob ∧ ob.dict = none := fun b e => by
  injection e with e; subst e
  exact let ⟨o, _, _, _, _, _, ho, d, _⟩ := x; ⟨o, ho, d.ex.2.1⟩
/-- the search by scan -/
theorem m_setFind {o : Obj} {st : SSt} {es : Array (Int × Value)} {ep fg mv : Nat} {Q : Option Nat → Shared → Prop} (ho : h.get? a = some o) (d : SetD w o st es ep fg mv)
    (kn : st.2.2.contains k = false → Q none ⟨h, g, dr, t, os⟩) (ky : ∀ i, i < st.2.2.length → st.2.2[i]? = some k → Q (some i) ⟨h, g, dr, t, os⟩) :
    wpAny (MM w) A (setFind a (.int k tk) (hashInt k)) Q E ⟨h, g, dr, t, os⟩ := by
  unfold setFind setFindIn
  refine wpAny_bind (wpAny_setState_of (s := ⟨h, g, dr, t, os⟩) ho d.data d.fits ?_)
  dsimp only
  rw [byScan_of (x := .int k tk) rfl d.bound d.elems]
  simp only [↓reduceIte]
  refine wpAny_bind (wpAny_rule ?_)
  refine wpAny_bind (wpAny_setScan_of (knd := intKind PR w) (intKind_is PR w k tk) ho d.data d.fits d.elems ?_)
  cases hr : List.findIdx? (fun e => (intKind PR w).is k e.2) es.toList with
  | some j =>
    dsimp only
    obtain ⟨hj, hpj, _⟩ := List.findIdx?_eq_some_iff_getElem.mp hr
    rw [Nat.zero_add]
    refine wpAny_pure (ky j (by rw [← d.size, ← Array.length_toList]; exact hj) ?_)
    obtain ⟨tk', q⟩ := d.allInt _ (List.getElem_mem hj)
    obtain ⟨tk'', q'⟩ := isInt_iff.mp hpj
    rw [← d.keys, List.getElem?_map, List.getElem?_eq_getElem hj, Option.map_some]
    rw [q] at q'
    cases q'
    rfl
  | none =>
    dsimp only
    refine wpAny_pure (kn ?_)
    cases q : st.2.2.contains k with
    | false => rfl
    | true =>
      obtain ⟨e, he, hp⟩ := (d.has k).mp q
      have := List.findIdx?_eq_none_iff.mp hr e he
      rw [hp] at this; cases this
theorem erase_mem {l : List Int} (nd : l.Nodup) {i : Nat} {k : Int} (hi : i < l.length) (e : l[i]? = some k) (j : Int) : (l.take i ++ l.drop (i + 1)).contains j = (l.contains j && j != k) := by
  have hs : l = l.take i ++ k :: l.drop (i + 1) := by
    have q : l[i] = k := by rw [List.getElem?_eq_getElem hi] at e; exact Option.some.inj e
    rw [← q, ← List.drop_eq_getElem_cons hi, List.take_append_drop]
  rw [hs, List.nodup_append] at nd
  obtain ⟨-, n2, n3⟩ := nd
  rw [List.nodup_cons] at n2
  rw [Bool.eq_iff_iff, Bool.and_eq_true, List.contains_iff_mem, List.contains_iff_mem, List.mem_append, bne_iff_ne]
  constructor
  · intro q
    refine ⟨by rw [hs]; rcases q with q | q <;> simp [q], fun e => ?_⟩
    subst e
    rcases q with q | q
    · exact n3 _ q _ (.head _) rfl
    · exact n2.1 q
  · rintro ⟨q, ne⟩
    rw [hs, List.mem_append, List.mem_cons] at q
    rcases q with q | q | q
    · exact .inl q
    · exact absurd q ne
    · exact .inr q
theorem m_setDiscard {Q : Bool → Shared → Prop} (hS : SetI w h a χ) (hk : k ∈ K3) (kk : ∀ h' t', Heap.SameBut a h h' → SetI w h' a (fun j => χ j && j != k) → Q (χ k) ⟨h', g, dr, t', os⟩) :
    wpAny (MM w) A (setDiscard a (.int k tk)) Q E ⟨h, g, dr, t, os⟩ := by
  obtain ⟨o, st, es, ep, fg, mv, ho, d, r⟩ := hS
  unfold setDiscard setDiscardHashed
  refine wpAny_holding (wpAny_bind (wpAny_pyHash_int ?_))
  refine wpAny_bind (m_setFind ho d (fun hn => ?_) fun i hi he => ?_)
  · dsimp only
    refine wpAny_pure ?_
    have := kk h (t + 1) (Heap.SameBut.refl _ _) ⟨o, st, es, ep, fg, mv, ho, d, fun j => by
      show (χ j && j != k) = _
      rw [r j]
      by_cases q : j = k
      · subst q; rw [hn]; rfl
      · rw [bne_iff_ne.mpr q, Bool.and_true]⟩
    rw [r k, hn] at this
    exact this
  · dsimp only
    refine wpAny_bind (wpAny_setState_of (s := ⟨h, g, dr, t + 1, os⟩) ho d.data d.fits ?_)
    dsimp only
    have C := List.all_eq_true.mp (List.all_eq_true.mp (ck_drop fg (!byT w) mv) st d.mem) i (List.mem_range.mpr hi)
    simp only [Bool.and_eq_true] at C
    have hz : (SetTable.eraseAt es i).size = st.2.2.length - 1 := by
      rw [← Array.length_toList, eraseAt_list, List.length_append, List.length_take, List.length_drop, Array.length_toList, d.size]
      omega
    refine wpAny_bind (wpAny_storeSet_of (s := ⟨h, g, dr, t + 1, os⟩) ho d.data ?_ (by rw [hz, ← d.size]; have := d.le3; rw [sizeLine_eq]; omega))
    refine wpAny_bind (wpAny_point (wpAny_pure ?_))
    have hχ : χ k = true := by rw [r k, List.contains_iff_mem]; exact List.mem_of_getElem? he
    have fin := kk (h.update a (Obj.putSet (SetTable.eraseAt es i) ((tabOf st fg (!byT w) mv).drop i))) (t + 1) (Heap.SameBut.update ..) ?_
    · rw [hχ] at fin; exact fin
    · have hpl : st.1.toArray[i]? = some (st.1[i]'(by
          have := d.fits
          simp only [SetTable.fits, Bool.and_eq_true, beq_iff_eq, tabOf, List.size_toArray] at this
          rw [this.1, d.size]; exact hi)) := by
        rw [List.getElem?_toArray]; exact List.getElem?_eq_getElem _
      have hdr : (tabOf st fg (!byT w) mv).drop i = tabOf (((tabOf st fg (!byT w) mv).drop i).place.toList, ((tabOf st fg (!byT w) mv).drop i).dummies.toList, (SetTable.eraseAt st.2.2.toArray i).toList) fg (!byT w) mv := by
        unfold SetTable.drop
        show (match st.1.toArray[i]? with | some j => _ | none => _) = _
        rw [hpl]
        simp only [tabOf]
        rw [hpl]
      refine ⟨{ o with data := .set (SetTable.eraseAt es i) (ep + 1) ((tabOf st fg (!byT w) mv).drop i) }, _, SetTable.eraseAt es i, ep + 1, fg, mv, ?_, ⟨List.contains_iff_mem.mp C.1, d.ex, ?_, ?_, ?_⟩, ?_⟩
      · have := Heap.get?_update_self (Obj.putSet (SetTable.eraseAt es i) ((tabOf st fg (!byT w) mv).drop i)) ho (by rw [putSet_of _ _ d.data]; rfl)
        rw [putSet_of _ _ d.data] at this; exact this
      · exact congrArg (Data.set _ _) hdr
      · dsimp only
        rw [eraseAt_list, eraseAt_list, List.map_append, List.map_take, List.map_drop, d.keys]
      · intro e he
        rw [eraseAt_list, List.mem_append] at he
        rcases he with he | he
        · exact d.allInt e (List.mem_of_mem_take he)
        · exact d.allInt e (List.mem_of_mem_drop he)
      · intro j
        dsimp only
        rw [r j, eraseAt_list, ← erase_mem d.nd hi he j]
end
end
end Mine
namespace Mine
noncomputable section
theorem perm_erase {α : Type} (l : List α) (i : Nat) (x : α) (e : l[i]? = some x) : (x :: l.eraseIdx i).Perm l := by
  induction l generalizing i with
  | nil => cases e
  | cons y l ih =>
    cases i with
    | zero => cases e; exact List.Perm.refl _
    | succ i =>
      have e' : l[i]? = some x := by simpa using e
      exact (List.Perm.swap y x _).trans ((ih i e').cons y)
theorem pick_go {α : Type} (next : Nat → Nat) : ∀ (fuel k : Nat) (left : List α) (out : Array α), left.length ≤ fuel → (pickOrder.go next fuel k left out).toList.Perm (out.toList ++ left)
  | 0, _, left, out, hl => by
    have : left = [] := List.eq_nil_of_length_eq_zero (Nat.le_zero.mp hl)
    subst this
    unfold pickOrder.go
    rw [List.append_nil]
  | fuel + 1, k, left, out, hl => by
    unfold pickOrder.go
    cases left with
    | nil =>
      have : ([] : List α)[next k % ([] : List α).length]? = none := by simp
      rw [this, List.append_nil]
    | cons y l =>
      have hlt : next k % (y :: l).length < (y :: l).length := Nat.mod_lt _ (Nat.succ_pos _)
      have hx := List.getElem?_eq_getElem hlt
      rw [hx]
      dsimp only
      refine (pick_go next fuel (k + 1) _ _ ?_).trans ?_
      · rw [List.length_eraseIdx_of_lt hlt]; omega
      · rw [Array.toList_push, List.append_assoc]
        exact List.Perm.append_left _ (perm_erase _ _ _ hx)
theorem pick_perm {α : Type} (next : Nat → Nat) (xs : Array α) : (pickOrder next xs).toList.Perm xs.toList := by
  have := pick_go next xs.size 0 xs.toList #[] (by rw [Array.length_toList]; exact Nat.le_refl _)
  exact this
/-- the order of a walk over the set -/
noncomputable def walkOf (w : World) (a ep : Nat) (es : Array (Int × Value)) : Array (Int × Value) := if byT w then pickOrder (w.params.setOrder a ep) es else es
theorem walk_perm (w : World) (a ep : Nat) (es : Array (Int × Value)) : (walkOf w a ep es).toList.Perm es.toList := by
  unfold walkOf
  split
  · exact pick_perm _ _
  · exact List.Perm.refl _
section
variable {w : World} {A : Around} {E : Value → Shared → Prop} {h : Heap} {a : Addr} {g : Array GenState} {dr : Drawn} {t : Nat} {os : OsState} {χ : Int → Bool} {k : Int} {tk : Tok}
theorem m_setWalk {o : Obj} {st : SSt} {es : Array (Int × Value)} {ep fg mv : Nat} {Q : Array (Int × Value) → Shared → Prop} (ho : h.get? a = some o) (d : SetD w o st es ep fg mv)
    (kk : Q (walkOf w a ep es) ⟨h, g, dr, t, os⟩) : wpAny (MM w) A (setWalk a) Q E ⟨h, g, dr, t, os⟩ := by
  unfold setWalk setsByText
  refine wpAny_bind (wpAny_setState_of (s := ⟨h, g, dr, t, os⟩) ho d.data d.fits ?_)
  dsimp only
  refine wpAny_bind (wpAny_bind (wpAny_askSetting (wpAny_pure ?_)))
  dsimp only
  unfold walkOf at kk
  cases hb : byT w with
  | true =>
    rw [hb, if_pos rfl] at kk
    rw [show ((MM w).w.params.followText "set-order") = true from hb, if_pos rfl]
    exact wpAny_bind (wpAny_askSetting (wpAny_pure kk))
  | false =>
    rw [hb, if_neg (by decide)] at kk
    rw [show ((MM w).w.params.followText "set-order") = false from hb, if_neg (by decide)]
    rw [if_neg (by show ¬ ((!true && _) = true); simp)]
    refine wpAny_bind (m := ite _ _ _) ?_
    rw [if_neg (by show ¬ ((!(!false) && _) = true); simp)]
    exact wpAny_pure (wpAny_pure kk)
theorem m_setWalkUnseen {o : Obj} {st : SSt} {es : Array (Int × Value)} {ep fg mv : Nat} {l : List Addr} {f : Option Addr} {Q : Array (Int × Value) → Shared → Prop} (ho : h.get? a = some o) (d : SetD w o st es ep fg mv)
    (kk : Q (walkOf w a ep es) ⟨h, g, dr, t, os⟩) : wpAny (MM w) A (setWalkUnseen a l f) Q E ⟨h, g, dr, t, os⟩ := by
  unfold setWalkUnseen setsByText
  refine wpAny_bind (wpAny_setState_of (s := ⟨h, g, dr, t, os⟩) ho d.data d.fits ?_)
  dsimp only
  refine wpAny_bind (wpAny_bind (wpAny_askSetting (wpAny_pure ?_)))
  dsimp only
  rw [if_pos (by show (byT w || (!byT w && true) || _) = true; cases byT w <;> rfl)]
  exact m_setWalk ho d kk
theorem m_add {Q : Value → Shared → Prop} (hS : SetI w h a χ) (hk : k ∈ K3) (kk : ∀ h' t', Heap.SameBut a h h' → SetI w h' a (fun j => χ j || j == k) → Q .none ⟨h', g, dr, t', os⟩) :
    wpAny (MM w) A (call (.builtin "set.add") [.ref a, .int k tk]) Q E ⟨h, g, dr, t, os⟩ := by
  refine wpAny_call_entry F.slot_set_add hS.typeIs F.entry_set_add ?_ (F.args_set_add_2 _ _)
  unfold Builtin.«set.add» Builtin.Frozenset.oneOther
  simp only [List.isEmpty_nil, bind_assoc]
  unfold Builtin.Frozenset.addrOf setAdd
  refine wpAny_bind (wpAny_pure (wpAny_bind (wpAny_pure (wpAny_bind (wpAny_holding (wpAny_bind (wpAny_pyHash_int ?_)))))))
  exact m_setAddHashed hS hk fun h' s i => wpAny_pure ⟨_, rfl, kk h' _ s i⟩
theorem m_discard {Q : Value → Shared → Prop} (hS : SetI w h a χ) (hk : k ∈ K3) (kk : ∀ h' t', Heap.SameBut a h h' → SetI w h' a (fun j => χ j && j != k) → Q .none ⟨h', g, dr, t', os⟩) :
    wpAny (MM w) A (call (.builtin "set.discard") [.ref a, .int k tk]) Q E ⟨h, g, dr, t, os⟩ := by
  refine wpAny_call_entry F.slot_set_discard hS.typeIs F.entry_set_discard ?_ (F.args_set_discard_2 _ _)
  unfold Builtin.«set.discard» Builtin.Frozenset.oneOther
  simp only [List.isEmpty_nil, bind_assoc]
  unfold Builtin.Frozenset.addrOf Builtin.Frozenset.withSetAsKey
  refine wpAny_bind (wpAny_pure (wpAny_bind (wpAny_pure (wpAny_bind (wpAny_tryCatch ?_)))))
  exact m_setDiscard hS hk fun h' t' s i => wpAny_pure ⟨_, rfl, kk h' _ s i⟩
theorem m_clear {Q : Value → Shared → Prop} (hS : SetI w h a χ) (kk : ∀ h' t', Heap.SameBut a h h' → SetI w h' a (fun _ => false) → Q .none ⟨h', g, dr, t', os⟩) :
    wpAny (MM w) A (call (.builtin "set.clear") [.ref a]) Q E ⟨h, g, dr, t, os⟩ := by
  refine wpAny_call_entry F.slot_set_clear hS.typeIs F.entry_set_clear ?_ (F.args_set_clear_1 _)
  obtain ⟨o, st, es, ep, fg, mv, ho, d, r⟩ := hS
  unfold Builtin.«set.clear» Builtin.Frozenset.noArgs
  simp only [List.isEmpty_nil, bind_assoc]
  unfold Builtin.Frozenset.addrOf Builtin.Frozenset.clearAll setClear setDeathsKnown setsByText
  refine wpAny_bind (wpAny_pure (wpAny_bind (wpAny_bind ?_)))
  refine wpAny_bind (wpAny_bind (wpAny_setState_of (s := ⟨h, g, dr, t, os⟩) ho d.data d.fits ?_))
  dsimp only
  refine wpAny_bind (wpAny_bind (wpAny_askSetting (wpAny_pure (wpAny_pure ?_))))
  rw [if_pos (by show (byT w || (!byT w && true) || _) = true; cases byT w <;> rfl)]
  unfold setItems
  refine wpAny_bind (wpAny_bind (m_setWalk ho d (wpAny_pure (wpAny_bind (wpAny_pure ?_)))))
  refine wpAny_bind (wpAny_setState_of (s := ⟨h, g, dr, t, os⟩) ho d.data d.fits ?_)
  dsimp only
  refine wpAny_bind (wpAny_bind (wpAny_askSetting (wpAny_pure ?_)))
  refine wpAny_bind (wpAny_storeSet_of (s := ⟨h, g, dr, t, os⟩) ho d.data ?_ (by rw [sizeLine_eq]; decide))
  refine wpAny_pure (wpAny_letGo (wpAny_pure ⟨_, rfl, kk _ _ (Heap.SameBut.update ..) ?_⟩))
  have hcl : (tabOf st fg (!byT w) mv).cleared (!(byT w) && ((!byT w) || fg == 0)) = tabOf ([], [], []) fg (!byT w) ((tabOf st fg (!byT w) mv).movedTo 7) := by
    unfold SetTable.cleared SetTable.fresh tabOf
    have : (!(byT w) && ((!byT w) || fg == 0)) = !byT w := by cases byT w <;> rfl
    rw [this]
    rfl
  refine ⟨{ o with data := .set #[] (ep + 1) ((tabOf st fg (!byT w) mv).cleared (!(byT w) && ((!byT w) || fg == 0))) }, ([], [], []), #[], ep + 1, fg, (tabOf st fg (!byT w) mv).movedTo 7, ?_, ⟨by decide +kernel, d.ex, congrArg (Data.set _ _) hcl, rfl, fun e he => by simp at he⟩, fun _ => rfl⟩
  have := Heap.get?_update_self (Obj.putSet #[] ((tabOf st fg (!byT w) mv).cleared (!(byT w) && ((!byT w) || fg == 0)))) ho (by rw [putSet_of _ _ d.data]; rfl)
  rw [putSet_of _ _ d.data] at this; exact this
end
end
end Mine
namespace Mine
noncomputable section
theorem ck_laid (l : Bool) : (RR.all fun st => match SetTable.laid 7 0 0 l true st.2.2.toArray with
    | some (t, order) => RR.contains (t.place.toList, [], (order.filterMap (st.2.2.toArray[·]?)).toList) && ((order.filterMap (st.2.2.toArray[·]?)).toList.isPerm st.2.2) && t.fits st.2.2.length
    | none => false) = true := by kernel_rfl
theorem laid_tab {m f mv : Nat} {l p : Bool} {hs : Array Int} {t : SetTable} {order : Array Nat} (e : SetTable.laid m f mv l p hs = some (t, order)) : t = { mask := m, place := t.place, dummies := #[], finger := f, led := l, moves := mv, plain := p } := by
  unfold SetTable.laid at e
  cases q : SetTable.layClean m hs with
  | none => rw [q] at e; cases e
  | some owner => rw [q] at e; cases e; rfl
theorem re_keys (es : Array (Int × Value)) (order : Array Nat) (ks : List Int) (e : es.toList.map (·.1) = ks) : (order.filterMap (es[·]?)).toList.map (·.1) = (order.filterMap (ks.toArray[·]?)).toList := by
  rw [Array.toList_filterMap, Array.toList_filterMap, List.map_filterMap]
  congr 1
  funext i
  subst e
  simp
section
variable {w : World} {A : Around} {E : Value → Shared → Prop} {h : Heap} {a b : Addr} {g : Array GenState} {dr : Drawn} {t : Nat} {os : OsState} {χ ψ : Int → Bool} {k : Int} {tk : Tok}
theorem m_base {Q : Value → Shared → Prop} (hS : SetI w h a χ) (kk : Q (.type "set") ⟨h, g, dr, t, os⟩) : wpAny (MM w) A (Builtin.Frozenset.baseOf a) Q E ⟨h, g, dr, t, os⟩ := by
  unfold Builtin.Frozenset.baseOf
  refine wpAny_bind (wpAny_isInstance hS.typeIs sub_set_self ?_)
  exact wpAny_pure kk
theorem m_merge {Q : Unit → Shared → Prop} (hS : SetI w h a χ) (hb : h.get? b = some (newSetObj w)) (hne : b ≠ a) (kk : ∀ h', Heap.SameBut b h h' → SetI w h' b χ → Q () ⟨h', g, dr, t, os⟩) :
    wpAny (MM w) A (setMerge b a (pure ())) Q E ⟨h, g, dr, t, os⟩ := by
  obtain ⟨o, st, es, ep, fg, mv, ho, d, r⟩ := hS
  unfold setMerge
  rw [if_neg (by rw [beq_iff_eq]; exact hne)]
  refine wpAny_bind (wpAny_setState_of (s := ⟨h, g, dr, t, os⟩) ho d.data d.fits ?_)
  dsimp only
  have hfb : (SetTable.fresh 0 0 (!byT w)).fits 0 = true := by kernel_rfl
  split
  · rename_i he
    have hz : es.size = 0 := by simpa using he
    have hk : st.2.2 = [] := by rw [← List.length_eq_zero_iff, ← d.size]; exact hz
    refine wpAny_pure (kk h (Heap.SameBut.refl _ _) ⟨newSetObj w, ([], [], []), #[], 0, 0, 0, hb, ⟨by decide +kernel, ⟨rfl, rfl, rfl⟩, rfl, rfl, fun e he => by simp at he⟩, fun k => by rw [r k, hk]⟩)
  · unfold setRoomFor
    refine wpAny_bind (wpAny_bind (wpAny_setState_of (s := ⟨h, g, dr, t, os⟩) hb rfl hfb ?_))
    have hrm : (SetTable.fresh 0 0 (!byT w)).roomFor es.size = none := by
      unfold SetTable.roomFor
      rw [if_neg]
      show ¬ ((0 + es.size) * 5 ≥ 7 * 3)
      have := d.le3
      omega
    rw [show (#[], 0, SetTable.fresh 0 0 (!byT w)).2.2.roomFor es.size = none from hrm]
    refine wpAny_pure ?_
    refine wpAny_bind (wpAny_setState_of (s := ⟨h, g, dr, t, os⟩) hb rfl hfb ?_)
    dsimp only
    have C := List.all_eq_true.mp (ck_laid (!byT w && !byT w)) st d.mem
    have hll : (!byT w && !byT w) = !byT w := by cases byT w <;> rfl
    cases hdm : st.2.1 with
    | nil =>
      rw [show (SetTable.fresh 0 0 (!byT w)).road (tabOf st fg (!byT w) mv) = .slotForSlot from by
        unfold SetTable.road tabOf; rw [hdm]; rfl]
      dsimp only
      refine wpAny_storeSet_of (s := ⟨h, g, dr, t, os⟩) hb rfl (kk _ (Heap.SameBut.update ..) ?_) (by have := d.le3; rw [sizeLine_eq]; omega)
      refine ⟨{ newSetObj w with data := .set es 1 { tabOf st fg (!byT w) mv with finger := 0, led := (!byT w) && (!byT w), moves := 0, plain := true && true } }, st, es, 1, 0, 0, ?_, ⟨d.mem, ⟨rfl, rfl, rfl⟩, ?_, d.keys, d.allInt⟩, r⟩
      · exact Heap.get?_update_self (Obj.putSet es { tabOf st fg (!byT w) mv with finger := 0, led := (!byT w) && (!byT w), moves := 0, plain := true && true }) hb rfl
      · show Data.set _ _ _ = Data.set _ _ _
        rw [hll]
        rfl
    | cons x xs =>
      rw [show (SetTable.fresh 0 0 (!byT w)).road (tabOf st fg (!byT w) mv) = .clean from by
        unfold SetTable.road tabOf; rw [hdm]; rfl]
      dsimp only
      have hks : Array.map (fun x => x.1) es = st.2.2.toArray := by rw [← d.keys, ← Array.toList_map]
      refine wpAny_bind ?_
      rw [hks]
      split at C
      · rename_i t' order hl
        have hl' : SetTable.laid (SetTable.fresh 0 0 (!byT w)).mask (SetTable.fresh 0 0 (!byT w)).finger (SetTable.fresh 0 0 (!byT w)).moves ((SetTable.fresh 0 0 (!byT w)).led && (tabOf st fg (!byT w) mv).led)
            ((SetTable.fresh 0 0 (!byT w)).plain && (tabOf st fg (!byT w) mv).plain) st.2.2.toArray = some (t', order) := hl
        rw [hl']
        k_delta "reordered"
        dsimp only
        simp only [Bool.and_eq_true] at C
        obtain ⟨⟨C1, C2⟩, C3⟩ := C
        have C2 := List.isPerm_iff.mp C2
        have hkeys := re_keys es order st.2.2 d.keys
        have hz : (order.filterMap (es[·]?)).size = es.size := by
          rw [← Array.length_toList, ← List.length_map (f := (·.1)), hkeys, C2.length_eq, d.size]
        rw [if_neg (by rw [hz]; simp)]
        refine wpAny_pure ?_
        dsimp only
        refine wpAny_storeSet_of (s := ⟨h, g, dr, t, os⟩) hb rfl (kk _ (Heap.SameBut.update ..) ?_) (by rw [hz]; have := d.le3; rw [sizeLine_eq]; omega)
        refine ⟨{ newSetObj w with data := .set (order.filterMap (es[·]?)) 1 t' }, _, order.filterMap (es[·]?), 1, 0, 0, ?_, ⟨List.contains_iff_mem.mp C1, ⟨rfl, rfl, rfl⟩, ?_, hkeys, ?_⟩, ?_⟩
        · exact Heap.get?_update_self (Obj.putSet (order.filterMap (es[·]?)) t') hb rfl
        · refine congrArg (Data.set _ _) ?_
          rw [laid_tab hl, hll]
          rfl
        · intro e he
          rw [Array.toList_filterMap, List.mem_filterMap] at he
          obtain ⟨i, _, hi⟩ := he
          exact d.allInt e (by rw [← Array.getElem?_toList] at hi; exact List.mem_of_getElem? hi)
        · intro j
          rw [r j]
          show _ = (order.filterMap (st.2.2.toArray[·]?)).toList.contains j
          rw [Bool.eq_iff_iff, List.contains_iff_mem, List.contains_iff_mem]
          exact C2.mem_iff.symm
      · cases C
theorem m_copyOf {Q : Value → Shared → Prop} (hS : SetI w h a χ) (kk : ∀ h', Heap.SameBut h.objs.size (h.push (newSetObj w)) h' → SetI w h' h.objs.size χ → Q (.ref h.objs.size) ⟨h', g, dr, t, os⟩) :
    wpAny (MM w) A (Builtin.Frozenset.copyOf a) Q E ⟨h, g, dr, t, os⟩ := by
  unfold Builtin.Frozenset.copyOf
  refine wpAny_bind (m_base hS (wpAny_bind (m_newSetObj ?_)))
  unfold Builtin.Frozenset.addrOf
  refine wpAny_bind (wpAny_pure (wpAny_bind ?_))
  have hlt : a < h.objs.size := let ⟨o, _, _, _, _, _, ho, _⟩ := hS; Heap.lt_size ho
  exact m_merge (hS.at fun o e => Heap.get?_push_of_some _ e) (Heap.get?_push_size _ rfl) (Nat.ne_of_gt hlt) fun h' s i => wpAny_pure (kk h' s i)
theorem m_copy {Q : Value → Shared → Prop} (hS : SetI w h a χ) (kk : ∀ h', Heap.SameBut h.objs.size (h.push (newSetObj w)) h' → SetI w h' h.objs.size χ → Q (.ref h.objs.size) ⟨h', g, dr, t, os⟩) :
    wpAny (MM w) A (call (.builtin "set.copy") [.ref a]) Q E ⟨h, g, dr, t, os⟩ := by
  refine wpAny_call_entry F.slot_set_copy hS.typeIs F.entry_set_copy ?_ (F.args_set_copy_1 _)
  unfold Builtin.«set.copy» Builtin.Frozenset.noArgs
  simp only [List.isEmpty_nil]
  unfold Builtin.Frozenset.addrOf
  refine wpAny_bind (wpAny_pure (wpAny_bind (m_copyOf hS fun h' s i => wpAny_pure ⟨_, rfl, kk h' s i⟩)))
end
end
end Mine
namespace Mine
noncomputable section
theorem entry_set_diff : entryFor table "set.difference" = some Builtin.«frozenset.difference» :=
  entryFor_alias (id' := "frozenset.difference") (by rw [fastTable_eq_tree]; kernel_rfl) rfl (by decide +kernel) (by rw [fastTable_eq_tree]; kernel_rfl)
section
variable {w : World} {A : Around} {E : Value → Shared → Prop} {h : Heap} {a b : Addr} {g : Array GenState} {dr : Drawn} {t : Nat} {os : OsState} {χ ψ : Int → Bool} {k : Int} {tk : Tok}
theorem m_anySet {Q : Bool → Shared → Prop} (hS : SetI w h a χ) (kk : Q true ⟨h, g, dr, t, os⟩) : wpAny (MM w) A (Builtin.Frozenset.isAnySet (.ref a)) Q E ⟨h, g, dr, t, os⟩ := by
  unfold Builtin.Frozenset.isAnySet
  refine wpAny_bind (wpAny_isInstance hS.typeIs sub_set_self ?_)
  exact wpAny_pure kk
theorem m_sizeOf {o : Obj} {st : SSt} {es : Array (Int × Value)} {ep fg mv : Nat} {Q : Nat → Shared → Prop} (ho : h.get? a = some o) (d : SetD w o st es ep fg mv) (kk : Q es.size ⟨h, g, dr, t, os⟩) :
    wpAny (MM w) A (Builtin.Frozenset.sizeOf a) Q E ⟨h, g, dr, t, os⟩ := by
  unfold Builtin.Frozenset.sizeOf setEntries
  exact wpAny_bind (wpAny_bind (wpAny_setState_of (s := ⟨h, g, dr, t, os⟩) ho d.data d.fits (wpAny_pure (wpAny_pure kk))))
theorem m_difference {Q : Value → Shared → Prop} (hS : SetI w h a χ) (hT : SetI w h b ψ)
    (kk : ∀ h', Heap.SameBut h.objs.size (h.push (newSetObj w)) h' → SetI w h' h.objs.size (fun j => χ j && !ψ j) → Q (.ref h.objs.size) ⟨h', g, dr, t, os⟩) :
    wpAny (MM w) A (call (.builtin "set.difference") [.ref a, .ref b]) Q E ⟨h, g, dr, t, os⟩ := by
  refine wpAny_call_entry F.slot_set_difference hS.typeIs entry_set_diff ?_ (F.args_set_difference_2 _ _)
  have ha : a < h.objs.size := let ⟨o, _, _, _, _, _, ho, _⟩ := hS; Heap.lt_size ho
  have hb : b < h.objs.size := let ⟨o, _, _, _, _, _, ho, _⟩ := hT; Heap.lt_size ho
  have hS' := hS
  have hT' := hT
  obtain ⟨o, st, es, ep, fg, mv, ho, d, r⟩ := hS
  obtain ⟨o2, st2, es2, ep2, fg2, mv2, ho2, d2, r2⟩ := hT
  unfold Builtin.«frozenset.difference» Builtin.Frozenset.manyOthers
  simp only [List.isEmpty_nil, Bool.not_true, Bool.false_eq_true, if_false]
  unfold Builtin.Frozenset.addrOf
  refine wpAny_bind (wpAny_bind (wpAny_pure (wpAny_pure ?_)))
  dsimp only
  refine wpAny_bind ?_
  unfold Builtin.Frozenset.difference
  refine wpAny_bind (m_anySet hT' ?_)
  simp only [Bool.not_true, Bool.false_eq_true, if_false, Bool.false_and, if_true]
  unfold Builtin.Frozenset.addrOf
  refine wpAny_bind (wpAny_pure (wpAny_bind (m_sizeOf ho2 d2 (wpAny_bind (m_sizeOf ho d ?_)))))
  rw [if_neg (by have := d.le3; omega)]
  refine wpAny_bind (m_base hS' (wpAny_bind (m_newSetObj (wpAny_bind (wpAny_pure ?_)))))
  have keep : ∀ c o, h.get? c = some o → (h.push (newSetObj w)).get? c = some o := fun c o e => Heap.get?_push_of_some _ e
  refine wpAny_bind (wpAny_setEpoch_of (s := ⟨h.push (newSetObj w), g, dr, t, os⟩) (keep _ _ ho) d.data d.fits ?_)
  refine wpAny_bind (wpAny_holding (wpAny_bind (m_setWalkUnseen (keep _ _ ho) d ?_)))
  rw [← Array.forIn_toList]
  have hperm := walk_perm w a ep es
  refine wpAny_bind (wpAny_mono (wpAny_forIn_list _ (fun rest _ s' => ∃ pre h', pre ++ rest = (walkOf w a ep es).toList ∧ s' = ⟨h', g, dr, t, os⟩ ∧ Heap.SameBut h.objs.size (h.push (newSetObj w)) h' ∧
      SetI w h' h.objs.size (fun j => (pre.map (·.1)).contains j && !ψ j)) (fun _ s' => ∃ h', s' = ⟨h', g, dr, t, os⟩ ∧ Heap.SameBut h.objs.size (h.push (newSetObj w)) h' ∧ SetI w h' h.objs.size (fun j => χ j && !ψ j))
      ?_ ?_ _ _ ⟨[], h.push (newSetObj w), rfl, rfl, Heap.SameBut.refl _ _, (newSet_setI w h).congr fun j => rfl⟩) (fun u s' hu => ?_) fun _ _ e => e)
  · rintro ⟨hv, x⟩ rest u s' ⟨pre, h', hpre, rfl, hsb, hI⟩
    have hm : (hv, x) ∈ es.toList := hperm.mem_iff.mp (by rw [← hpre]; simp)
    obtain ⟨tk', hx⟩ := d.allInt _ hm
    dsimp only at hx
    subst hx
    have hk : hv ∈ K3 := d.k3 _ (by rw [← d.keys]; exact List.mem_map_of_mem hm)
    have g1 : h'.get? a = some o := (hsb.2 a (Nat.ne_of_lt ha)).trans (keep _ _ ho)
    have g2 : h'.get? b = some o2 := (hsb.2 b (Nat.ne_of_lt hb)).trans (keep _ _ ho2)
    have tail : ∀ (R : ForInStep PUnit → Shared → Prop) h'', Heap.SameBut h.objs.size (h.push (newSetObj w)) h'' → R (.yield PUnit.unit) ⟨h'', g, dr, t, os⟩ →
        wpAny (MM w) A.in1 (Builtin.Frozenset.unchanged "frozenset.difference" a ep >>= fun _ => pure (ForInStep.yield PUnit.unit)) R E ⟨h'', g, dr, t, os⟩ := by
      intro R h'' hs'' hi''
      unfold Builtin.Frozenset.unchanged
      have g3 : h''.get? a = some o := (hs''.2 a (Nat.ne_of_lt ha)).trans (keep _ _ ho)
      refine wpAny_bind (wpAny_bind (wpAny_setEpoch_of (s := ⟨h'', g, dr, t, os⟩) g3 d.data d.fits ?_))
      rw [if_neg (by simp)]
      exact wpAny_pure (wpAny_pure hi'')
    refine wpAny_bind (wpAny_holding (wpAny_bind ?_))
    have ff := @m_setFind w A.in1 E h' b g dr t os hv tk' o2 st2 es2 ep2 fg2 mv2
    rw [hash3 hk] at ff
    refine ff g2 d2 ?_ ?_
    · intro hn
      refine wpAny_bind (wpAny_pure ?_)
      rw [show (Option.isSome (none : Option Nat)) = false from rfl]
      simp only [Bool.not_false, if_true]
      have aa := @m_setAddHashed w A.in1 E h' h.objs.size g dr t os (fun j => (pre.map (·.1)).contains j && !ψ j) hv tk'
      rw [hash3 hk] at aa
      refine wpAny_bind (aa hI hk fun h'' s'' i'' => wpAny_pure (tail _ h'' (hsb.trans s'') ⟨pre ++ [(hv, Value.int hv tk')], h'', (by rw [List.append_assoc]; exact hpre), rfl, hsb.trans s'', i''.congr fun j => ?_⟩))
      rw [List.map_append, List.contains_eq_any_beq, List.contains_eq_any_beq, List.any_append]
      have hψ : ψ hv = false := by rw [r2 hv]; exact hn
      by_cases q : j = hv
      · subst q; simp [hψ]
      · have q' : (hv == j) = false := beq_false_of_ne (fun e => q e.symm)
        have q'' : (j == hv) = false := beq_false_of_ne q
        simp [q', q'']
    · intro i hi he
      refine wpAny_bind (wpAny_pure ?_)
      rw [show (Option.isSome (some i)) = true from rfl]
      simp only [Bool.not_true, Bool.false_eq_true, if_false]
      refine wpAny_pure (tail _ h' hsb ⟨pre ++ [(hv, Value.int hv tk')], h', (by rw [List.append_assoc]; exact hpre), rfl, hsb, hI.congr fun j => ?_⟩)
      have hψ : ψ hv = true := by rw [r2 hv, List.contains_iff_mem]; exact List.mem_of_getElem? he
      rw [List.map_append, List.contains_eq_any_beq, List.contains_eq_any_beq, List.any_append]
      by_cases q : j = hv
      · subst q; simp [hψ]
      · have q' : (hv == j) = false := beq_false_of_ne (fun e => q e.symm)
        have q'' : (j == hv) = false := beq_false_of_ne q
        simp [q', q'']
  · rintro u s' ⟨pre, h', hpre, rfl, hsb, hI⟩
    rw [List.append_nil] at hpre
    refine ⟨h', rfl, hsb, hI.congr fun j => ?_⟩
    rw [hpre, r j, Bool.eq_iff_iff, Bool.and_eq_true, Bool.and_eq_true, List.contains_iff_mem, List.contains_iff_mem, ← d.keys]
    rw [(hperm.map (·.1)).mem_iff]
  · obtain ⟨h', rfl, hsb, hI⟩ := hu
    refine wpAny_pure (wpAny_pure ?_)
    refine wpAny_bind (wpAny_holding ?_)
    exact wpAny_pure (wpAny_pure ⟨_, rfl, kk h' hsb hI⟩)
end
end
end Mine
namespace Mine
noncomputable section
theorem slot_sin : Slot "set_iterator" "__next__" "set_iterator.__next__" :=
  .of (owner := "set_iterator") (n := "__next__") (by rw [typeLookup_type, builtinLookup_eq_fast]; kernel_rfl) (by decide +kernel) (by decide +kernel) (by decide +kernel)
    (by first | exact .inl (by decide +kernel) | exact .inr (by decide +kernel)) (by rw [isSubtype_type]; kernel_rfl)
theorem slot_sii : Slot "set_iterator" "__iter__" "set_iterator.__iter__" :=
  .of (owner := "set_iterator") (n := "__iter__") (by rw [typeLookup_type, builtinLookup_eq_fast]; kernel_rfl) (by decide +kernel) (by decide +kernel) (by decide +kernel)
    (by first | exact .inl (by decide +kernel) | exact .inr (by decide +kernel)) (by rw [isSubtype_type]; kernel_rfl)
theorem entry_sin : entryFor table "set_iterator.__next__" = some Builtin.«set_iterator.__next__» := entryFor_of_tree (by kernel_rfl)
theorem entry_sii : entryFor table "set_iterator.__iter__" = some Builtin.«dict_keyiterator.__iter__» :=
  entryFor_alias (id' := "dict_keyiterator.__iter__") (by rw [fastTable_eq_tree]; kernel_rfl) rfl (by decide +kernel) (by rw [fastTable_eq_tree]; kernel_rfl)
theorem entry_siter : entryFor table "set.__iter__" = some Builtin.«frozenset.__iter__» :=
  entryFor_alias (id' := "frozenset.__iter__") (by rw [fastTable_eq_tree]; kernel_rfl) rfl (by decide +kernel) (by rw [fastTable_eq_tree]; kernel_rfl)
theorem args_sin (a : Value) : argsOk "set_iterator.__next__" ⟨[a], []⟩ := by unfold argsOk; kernel_rfl
theorem args_sii (a : Value) : argsOk "set_iterator.__iter__" ⟨[a], []⟩ := by unfold argsOk; kernel_rfl
theorem ck_below : (RR.all fun st => (SetTable.below st.1.toArray 0 == 0) && (st.1.length == st.2.2.length) && (List.range st.1.length).all fun i => SetTable.below st.1.toArray (st.1.getD i 0 + 1) == i + 1) = true := by decide +kernel
noncomputable def iterObj (sl i a n ep : Nat) : Obj := { cls := .type "set_iterator", data := .fields #[.int sl 0, .int i 0, .ref a, .int n 0, .int ep 0] }
/-- the set's iterator at its i-th turn -/
noncomputable def SIter (w : World) (o : Obj) (st : SSt) (n ep : Nat) (I a : Addr) (i : Nat) (h : Heap) : Prop :=
  h.get? a = some o ∧ ∃ sl, h.get? I = some (iterObj sl i a n ep) ∧ (byT w = false → i ≤ st.1.length → SetTable.below st.1.toArray sl = i)
section
variable {w : World} {A : Around} {E : Value → Shared → Prop} {h : Heap} {I a : Addr} {g : Array GenState} {dr : Drawn} {t : Nat} {os : OsState} {o : Obj} {st : SSt} {es : Array (Int × Value)} {ep fg mv i sl : Nat}
theorem m_setNext {Q : Option (Value × Nat) → Shared → Prop} (ho : h.get? a = some o) (d : SetD w o st es ep fg mv) (hb : byT w = false → i ≤ st.1.length → SetTable.below st.1.toArray sl = i)
    (hi : i ≤ es.size) (ky : ∀ v sl', (walkOf w a ep es)[i]?.map (·.2) = some v → (byT w = false → i + 1 ≤ st.1.length → SetTable.below st.1.toArray sl' = i + 1) → Q (some (v, sl')) ⟨h, g, dr, t, os⟩)
    (kn : i = es.size → Q none ⟨h, g, dr, t, os⟩) : wpAny (MM w) A (setNext a sl i ep) Q E ⟨h, g, dr, t, os⟩ := by
  have ck := List.all_eq_true.mp ck_below st d.mem
  simp only [Bool.and_eq_true, beq_iff_eq, List.all_eq_true, List.mem_range] at ck
  unfold setNext setsByText
  refine wpAny_bind (wpAny_setState_of (s := ⟨h, g, dr, t, os⟩) ho d.data d.fits ?_)
  dsimp only
  refine wpAny_bind (wpAny_bind (wpAny_askSetting (wpAny_pure ?_)))
  cases hbt : byT w with
  | true =>
    rw [show ((MM w).w.params.followText "set-order") = true from hbt, if_pos rfl]
    rw [if_neg (by simp)]
    refine wpAny_bind (m_setWalk ho d ?_)
    refine wpAny_pure ?_
    cases q : (walkOf w a ep es)[i]? with
    | some e => exact ky e.2 sl (by rw [q]; rfl) fun c => by rw [hbt] at c; cases c
    | none =>
      refine kn ?_
      have : (walkOf w a ep es).size ≤ i := Array.getElem?_eq_none_iff.mp q
      rw [← Array.length_toList, (walk_perm w a ep es).length_eq, Array.length_toList] at this
      omega
  | false =>
    rw [show ((MM w).w.params.followText "set-order") = false from hbt, if_neg (by decide)]
    have hbi := hb hbt (by rw [ck.1.2, ← d.size]; exact hi)
    rw [if_neg (by show ¬ ((!true && _) = true); simp)]
    refine wpAny_bind (m := ite _ _ _) ?_
    rw [if_neg (by show ¬ ((!(!false) && _) = true); simp)]
    refine wpAny_pure (wpAny_pure ?_)
    rw [show (tabOf st fg (!false) mv).place = st.1.toArray from rfl, hbi]
    have hw : walkOf w a ep es = es := by unfold walkOf; rw [hbt]; rfl
    rw [hw] at ky
    by_cases hlt : i < es.size
    · have hlp : i < st.1.length := by rw [ck.1.2, ← d.size]; exact hlt
      have e1 := Array.getElem?_eq_getElem hlt
      have e2 : st.1.toArray[i]? = some st.1[i] := by rw [List.getElem?_toArray, List.getElem?_eq_getElem hlp]
      rw [e1, e2]
      refine ky _ _ (by rw [e1]; rfl) fun _ _ => ?_
      have := ck.2 i hlp
      rw [List.getD_eq_getElem?_getD, List.getElem?_eq_getElem hlp] at this
      exact this
    · have he : i = es.size := by omega
      rw [Array.getElem?_eq_none (by omega)]
      exact kn he
theorem walks_set (hh : A.handled = none) (d : SetD w o st es ep fg mv) (hne : a ≠ I) :
    Walks PR w A I [I, a] [I] es.size (fun i v => (walkOf w a ep es)[i]?.map (·.2) = some v) (SIter w o st es.size ep I a) where
  sub := fun b hb => by simp at hb; simp [hb]
  frame := fun i h h' s hk => ⟨hk a (by simp) _ s.1, let ⟨sl, x, y⟩ := s.2; ⟨sl, hk I (by simp) _ x, y⟩⟩
  item := fun i s Q E hi stt hQ => by
    obtain ⟨h, g, dr, t, os⟩ := s
    obtain ⟨ho, sl, hI, hb⟩ := stt
    dsimp only at ho hI
    have hT : Shared.TypeIs ⟨h, g, dr, t, os⟩ (.ref I) "set_iterator" := ⟨_, hI, rfl⟩
    unfold pyNext
    refine wpAny_bind (wpAny_attempt (wpAny_callSpecial?_slot (name := Str.ofString "__next__") hT slot_sin (wpAny_call_entry slot_sin hT entry_sin ?_ (args_sin _))))
    unfold Builtin.«set_iterator.__next__»
    refine wpAny_bind (wpAny_pure ?_)
    refine wpAny_bind (wpAny_fieldsOf (s := ⟨h, g, dr, t, os⟩) hI rfl ?_)
    dsimp only
    refine wpAny_bind (wpAny_setEntries_of (s := ⟨h, g, dr, t, os⟩) ho d.data d.fits ?_)
    rw [if_neg (by simp)]
    refine wpAny_bind (m_setNext ho d hb (Nat.le_of_lt hi) (fun v sl' hv hb' => ?_) fun he => absurd hi (by rw [Int.toNat_natCast] at he; omega))
    dsimp only
    refine wpAny_bind (wpAny_setField (s := ⟨h, g, dr, t, os⟩) hI rfl (by simp) ?_)
    have g1 := Heap.get?_update_self (h := h) (Obj.mapFields (·.setIfInBounds 0 (rawInt sl'))) hI rfl
    refine wpAny_bind (wpAny_setField (s := ⟨h.update I _, g, dr, t, os⟩) g1 rfl (by simp [iterObj]) ?_)
    have g2 := Heap.get?_update_self (h := h.update I (Obj.mapFields (·.setIfInBounds 0 (rawInt sl')))) (Obj.mapFields (·.setIfInBounds 1 (rawInt ((i : Int) + 1)))) g1 rfl
    refine wpAny_pure ⟨v, rfl, wpAny_pure (hQ v _ t hv ⟨?_, sl', ?_, hb'⟩ fun b o' hb'' e => ?_)⟩
    · exact (Heap.get?_update_ne _ _ _ _ hne).trans ((Heap.get?_update_ne _ _ _ _ hne).trans ho)
    · exact g2
    · have : b ≠ I := by simpa using hb''
      exact (Heap.get?_update_ne _ _ _ _ this).trans ((Heap.get?_update_ne _ _ _ _ this).trans e)
  done := fun s Q E stt hQ => by
    obtain ⟨h, g, dr, t, os⟩ := s
    obtain ⟨ho, sl, hI, hb⟩ := stt
    dsimp only at ho hI
    have hT : Shared.TypeIs ⟨h, g, dr, t, os⟩ (.ref I) "set_iterator" := ⟨_, hI, rfl⟩
    unfold pyNext
    refine wpAny_bind (wpAny_attempt (wpAny_callSpecial?_slot (name := Str.ofString "__next__") hT slot_sin (wpAny_call_entry slot_sin hT entry_sin ?_ (args_sin _))))
    unfold Builtin.«set_iterator.__next__»
    refine wpAny_bind (wpAny_pure ?_)
    refine wpAny_bind (wpAny_fieldsOf (s := ⟨h, g, dr, t, os⟩) hI rfl ?_)
    dsimp only
    refine wpAny_bind (wpAny_setEntries_of (s := ⟨h, g, dr, t, os⟩) ho d.data d.fits ?_)
    rw [if_neg (by simp)]
    refine wpAny_bind (m_setNext ho d hb (Nat.le_refl _) (fun v sl' hv hb' => ?_) fun he => ?_)
    · exfalso
      have : (walkOf w a ep es)[es.size]? = none := by
        rw [Array.getElem?_eq_none_iff, ← Array.length_toList, (walk_perm w a ep es).length_eq, Array.length_toList]
        exact Nat.le_refl _
      rw [Int.toNat_natCast, Int.toNat_natCast, this] at hv; cases hv
    · dsimp only
      refine wpAny_bind (wpAny_setField (s := ⟨h, g, dr, t, os⟩) hI rfl (by simp) ?_)
      show wpAny _ _ (newExc (.type "StopIteration") [] >>= _) _ _ _
      refine wpAny_bind ?_
      simp only [newExc, newTuple]
      refine wpAny_bind (wpAny_newObj_type ?_ (by size_fits))
      refine wpAny_bind (m := firstArgMember _ _) (wpAny_of_eq (a := Value.none) (by first | rfl | (simp only [firstArgMember]; rfl)) ?_)
      refine wpAny_newObj_type ?_ (by size_fits)
      simp only [raiseNew]
      refine wpAny_bind (wpAny_handled ?_)
      rw [show A.in1.handled = none from hh]
      refine wpAny_bind (wpAny_pure (wpAny_throw ?_))
      refine wpAny_bind (wpAny_isInstance (T := "StopIteration") (b := true) ⟨_, Heap.get?_push_size _ rfl, rfl⟩ isSubtype_stop ?_)
      refine wpAny_pure (hQ _ t fun b o' hb'' e => ?_)
      have : b ≠ I := by simpa using hb''
      exact ((Heap.SameBut.update h I _).extBut.push _).push _ b o' this e
  self := fun i s Q E stt hQ => by
    obtain ⟨h, g, dr, t, os⟩ := s
    obtain ⟨ho, sl, hI, hb⟩ := stt
    have hT : Shared.TypeIs ⟨h, g, dr, t, os⟩ (.ref I) "set_iterator" := ⟨_, hI, rfl⟩
    refine wpAny_pyIter_slot hT slot_sii (wpAny_call_entry slot_sii hT entry_sii ?_ (args_sii _))
    show wpAny _ _ (ret (.ref I)) _ _ _
    exact wpAny_pure ⟨_, rfl, "set_iterator", _, hT, slot_sin.lookup, hQ⟩
/-- iter(set) -/
theorem m_siter {Q : Value → Shared → Prop} (ho : h.get? a = some o) (d : SetD w o st es ep fg mv) (kk : SIter w o st es.size ep h.objs.size a 0 (h.push (iterObj 0 0 a es.size ep)) → Q (.ref h.objs.size) ⟨h.push (iterObj 0 0 a es.size ep), g, dr, t, os⟩) :
    wpAny (MM w) A (pyIter (.ref a)) Q E ⟨h, g, dr, t, os⟩ := by
  have hT : Shared.TypeIs ⟨h, g, dr, t, os⟩ (.ref a) "set" := ⟨_, ho, d.ex.1⟩
  have ck := List.all_eq_true.mp ck_below st d.mem
  simp only [Bool.and_eq_true, beq_iff_eq] at ck
  refine wpAny_pyIter_slot hT F.slot_set_iter (wpAny_call_entry F.slot_set_iter hT entry_siter ?_ (F.args_set_iter_1 _))
  unfold Builtin.«frozenset.__iter__»
  refine wpAny_bind (wpAny_bind (wpAny_pure (wpAny_pure ?_)))
  refine wpAny_bind (m_sizeOf ho d ?_)
  unfold setDrawn setsByText
  refine wpAny_bind (wpAny_bind (wpAny_setState_of (s := ⟨h, g, dr, t, os⟩) ho d.data d.fits ?_))
  dsimp only
  refine wpAny_bind (wpAny_bind (wpAny_askSetting (wpAny_pure (wpAny_pure ?_))))
  rw [if_neg (by show ¬ ((!byT w && (!true && _)) = true); simp)]
  refine wpAny_bind (wpAny_pure (wpAny_bind (wpAny_setEpoch_of (s := ⟨h, g, dr, t, os⟩) ho d.data d.fits (wpAny_bind ?_))))
  refine wpAny_newObj_type (s := ⟨h, g, dr, t, os⟩) (wpAny_pure ⟨_, rfl, "set_iterator", _, ⟨_, Heap.get?_push_size _ rfl, rfl⟩, slot_sin.lookup, kk ⟨Heap.get?_push_of_some _ ho, 0, Heap.get?_push_size _ rfl, fun _ _ => ck.1.1⟩⟩) (by size_fits)
end
end
end Mine
namespace Mine
noncomputable section
structure Ptr where
  x : Addr
  d : Addr
  data : Addr
  orig : Addr
  seen : Addr
  asg : Addr
  newk : Addr
  cv : Value
noncomputable abbrev Ptr.addrs (p : Ptr) : List Addr := [p.x, p.d, p.data, p.orig, p.seen, p.asg, p.newk]
noncomputable def atts (p : Ptr) : Str → Option Value := fun n =>
  if n = "_data" then some (.ref p.data) else if n = "_orig" then some (.ref p.orig) else if n = "_seen" then some (.ref p.seen) else if n = "_cached_changelog" then some p.cv
  else if n = "_assigned_ids" then some (.ref p.asg) else if n = "new_keys" then some (.ref p.newk) else none
noncomputable abbrev IK (w : World) := intKind PR w
structure AS (w : World) (h₀ h : Heap) (p : Ptr) (D O : List (Int × Value)) (S G N : Int → Bool) : Prop where
  inst : h.get? p.x = some (instObj 170 p.d)
  att : Nsz h p.d (atts p) 6
  data : h.DictOf (IK w) p.data D
  orig : h.DictOf (IK w) p.orig O
  seen : SetI w h p.seen S
  asg : SetI w h p.asg G
  newk : SetI w h p.newk N
  nd : p.addrs.Nodup
  low : ∀ a ∈ p.addrs, h₀.get? a = none
  sys : ∀ a ∈ p.addrs, (a == sysModules) = false
theorem DictOf_at {w : World} {h h' : Heap} {a : Addr} {kvs : List (Int × Value)} (x : h.DictOf (IK w) a kvs) (k : ∀ o, h.get? a = some o → h'.get? a = some o) : h'.DictOf (IK w) a kvs :=
  let ⟨o, es, ep, ho, r⟩ := x; ⟨o, es, ep, k _ ho, r⟩
section
variable {w : World} {h₀ h h' : Heap} {p : Ptr} {D O D' O' : List (Int × Value)} {S G N S' G' N' : Int → Bool}
/-- whoever keeps the seven keeps the set -/
theorem AS.of (x : AS w h₀ h p D O S G N) (k : ∀ a ∈ p.addrs, ∀ o, h.get? a = some o → h'.get? a = some o) : AS w h₀ h' p D O S G N where
  inst := k _ (by simp) _ x.inst
  att := x.att.at (k _ (by simp))
  data := DictOf_at x.data (k _ (by simp))
  orig := DictOf_at x.orig (k _ (by simp))
  seen := x.seen.at (k _ (by simp))
  asg := x.asg.at (k _ (by simp))
  newk := x.newk.at (k _ (by simp))
  nd := x.nd
  low := x.low
  sys := x.sys
theorem AS.keep (x : AS w h₀ h p D O S G N) (k : Keep h h') : AS w h₀ h' p D O S G N := x.of fun a _ o e => k a o e
theorem AS.ext {L : Addr} (x : AS w h₀ h p D O S G N) (k : Heap.ExtBut L h h') (n : L ∉ p.addrs) : AS w h₀ h' p D O S G N :=
  x.of fun a ha o e => k a o (fun q => n (q ▸ ha)) e
theorem AS.lt (x : AS w h₀ h p D O S G N) : ∀ a ∈ p.addrs, a < h.objs.size := by
  intro a ha
  simp only [Ptr.addrs, List.mem_cons, List.not_mem_nil, or_false] at ha
  rcases ha with rfl | rfl | rfl | rfl | rfl | rfl | rfl
  · exact Heap.lt_size x.inst
  · exact let ⟨o, _, _, ho, _⟩ := x.att; Heap.lt_size ho
  · exact let ⟨o, _, _, ho, _⟩ := x.data; Heap.lt_size ho
  · exact let ⟨o, _, _, ho, _⟩ := x.orig; Heap.lt_size ho
  · exact let ⟨o, _, _, _, _, _, ho, _⟩ := x.seen; Heap.lt_size ho
  · exact let ⟨o, _, _, _, _, _, ho, _⟩ := x.asg; Heap.lt_size ho
  · exact let ⟨o, _, _, _, _, _, ho, _⟩ := x.newk; Heap.lt_size ho
theorem AS.fresh (x : AS w h₀ h p D O S G N) : h.objs.size ∉ p.addrs := fun q => Nat.lt_irrefl _ (x.lt _ q)
theorem AS.set_data (x : AS w h₀ h p D O S G N) (s : Heap.SameBut p.data h h') (y : h'.DictOf (IK w) p.data D') : AS w h₀ h' p D' O S G N := by
  have nd := x.nd
  simp only [Ptr.addrs, List.nodup_cons, List.mem_cons, List.not_mem_nil, or_false, not_or] at nd
  obtain ⟨⟨a1, a2, a3, a4, a5, a6⟩, ⟨b2, b3, b4, b5, b6⟩, ⟨c3, c4, c5, c6⟩, ⟨d4, d5, d6⟩, ⟨e5, e6⟩, f6, -⟩ := nd
  exact ⟨(s.2 _ a2).trans x.inst, x.att.at fun o e => (s.2 _ b2).trans e, y, DictOf_at x.orig fun o e => (s.2 _ (Ne.symm c3)).trans e, x.seen.at fun o e => (s.2 _ (Ne.symm c4)).trans e,
    x.asg.at fun o e => (s.2 _ (Ne.symm c5)).trans e, x.newk.at fun o e => (s.2 _ (Ne.symm c6)).trans e, x.nd, x.low, x.sys⟩
theorem AS.set_orig (x : AS w h₀ h p D O S G N) (s : Heap.SameBut p.orig h h') (y : h'.DictOf (IK w) p.orig O') : AS w h₀ h' p D O' S G N := by
  have nd := x.nd
  simp only [Ptr.addrs, List.nodup_cons, List.mem_cons, List.not_mem_nil, or_false, not_or] at nd
  obtain ⟨⟨a1, a2, a3, a4, a5, a6⟩, ⟨b2, b3, b4, b5, b6⟩, ⟨c3, c4, c5, c6⟩, ⟨d4, d5, d6⟩, ⟨e5, e6⟩, f6, -⟩ := nd
  exact ⟨(s.2 _ a3).trans x.inst, x.att.at fun o e => (s.2 _ b3).trans e, DictOf_at x.data fun o e => (s.2 _ c3).trans e, y, x.seen.at fun o e => (s.2 _ (Ne.symm d4)).trans e,
    x.asg.at fun o e => (s.2 _ (Ne.symm d5)).trans e, x.newk.at fun o e => (s.2 _ (Ne.symm d6)).trans e, x.nd, x.low, x.sys⟩
theorem AS.set_seen (x : AS w h₀ h p D O S G N) (s : Heap.SameBut p.seen h h') (y : SetI w h' p.seen S') : AS w h₀ h' p D O S' G N := by
  have nd := x.nd
  simp only [Ptr.addrs, List.nodup_cons, List.mem_cons, List.not_mem_nil, or_false, not_or] at nd
  obtain ⟨⟨a1, a2, a3, a4, a5, a6⟩, ⟨b2, b3, b4, b5, b6⟩, ⟨c3, c4, c5, c6⟩, ⟨d4, d5, d6⟩, ⟨e5, e6⟩, f6, -⟩ := nd
  exact ⟨(s.2 _ a4).trans x.inst, x.att.at fun o e => (s.2 _ b4).trans e, DictOf_at x.data fun o e => (s.2 _ c4).trans e, DictOf_at x.orig fun o e => (s.2 _ d4).trans e, y,
    x.asg.at fun o e => (s.2 _ (Ne.symm e5)).trans e, x.newk.at fun o e => (s.2 _ (Ne.symm e6)).trans e, x.nd, x.low, x.sys⟩
theorem AS.set_asg (x : AS w h₀ h p D O S G N) (s : Heap.SameBut p.asg h h') (y : SetI w h' p.asg G') : AS w h₀ h' p D O S G' N := by
  have nd := x.nd
  simp only [Ptr.addrs, List.nodup_cons, List.mem_cons, List.not_mem_nil, or_false, not_or] at nd
  obtain ⟨⟨a1, a2, a3, a4, a5, a6⟩, ⟨b2, b3, b4, b5, b6⟩, ⟨c3, c4, c5, c6⟩, ⟨d4, d5, d6⟩, ⟨e5, e6⟩, f6, -⟩ := nd
  exact ⟨(s.2 _ a5).trans x.inst, x.att.at fun o e => (s.2 _ b5).trans e, DictOf_at x.data fun o e => (s.2 _ c5).trans e, DictOf_at x.orig fun o e => (s.2 _ d5).trans e, x.seen.at fun o e => (s.2 _ e5).trans e, y,
    x.newk.at fun o e => (s.2 _ (Ne.symm f6)).trans e, x.nd, x.low, x.sys⟩
theorem AS.set_newk (x : AS w h₀ h p D O S G N) (s : Heap.SameBut p.newk h h') (y : SetI w h' p.newk N') : AS w h₀ h' p D O S G N' := by
  have nd := x.nd
  simp only [Ptr.addrs, List.nodup_cons, List.mem_cons, List.not_mem_nil, or_false, not_or] at nd
  obtain ⟨⟨a1, a2, a3, a4, a5, a6⟩, ⟨b2, b3, b4, b5, b6⟩, ⟨c3, c4, c5, c6⟩, ⟨d4, d5, d6⟩, ⟨e5, e6⟩, f6, -⟩ := nd
  exact ⟨(s.2 _ a6).trans x.inst, x.att.at fun o e => (s.2 _ b6).trans e, DictOf_at x.data fun o e => (s.2 _ c6).trans e, DictOf_at x.orig fun o e => (s.2 _ d6).trans e, x.seen.at fun o e => (s.2 _ e6).trans e,
    x.asg.at fun o e => (s.2 _ f6).trans e, y, x.nd, x.low, x.sys⟩
theorem atts_cv (p : Ptr) (v : Value) : (fun y : Str => if y = "_cached_changelog" then some v else atts p y) = atts { p with cv := v } := by
  funext y
  by_cases e : y = "_cached_changelog"
  · subst e; rfl
  · simp only [atts, if_neg e]
theorem AS.set_cv {v : Value} (x : AS w h₀ h p D O S G N) (s : Heap.SameBut p.d h h') (y : Nsz h' p.d (fun y : Str => if y = "_cached_changelog" then some v else atts p y) 6) : AS w h₀ h' { p with cv := v } D O S G N := by
  have nd := x.nd
  simp only [Ptr.addrs, List.nodup_cons, List.mem_cons, List.not_mem_nil, or_false, not_or] at nd
  obtain ⟨⟨a1, a2, a3, a4, a5, a6⟩, ⟨b2, b3, b4, b5, b6⟩, ⟨c3, c4, c5, c6⟩, ⟨d4, d5, d6⟩, ⟨e5, e6⟩, f6, -⟩ := nd
  rw [atts_cv] at y
  exact ⟨(s.2 _ a1).trans x.inst, y, DictOf_at x.data fun o e => (s.2 _ (Ne.symm b2)).trans e, DictOf_at x.orig fun o e => (s.2 _ (Ne.symm b3)).trans e, x.seen.at fun o e => (s.2 _ (Ne.symm b4)).trans e,
    x.asg.at fun o e => (s.2 _ (Ne.symm b5)).trans e, x.newk.at fun o e => (s.2 _ (Ne.symm b6)).trans e, x.nd, x.low, x.sys⟩
theorem Good0.size (G : Good0 w h₀) (k : Keep h₀ h) : 203 < h.objs.size := Heap.lt_size (k _ _ (G.X 203 _ rfl))
theorem Good0.sys (G : Good0 w h₀) (k : Keep h₀ h) {a : Addr} (ha : h.objs.size ≤ a) : (a == sysModules) = false := by
  have := G.size k
  rw [beq_eq_false_iff_ne]
  exact Nat.ne_of_gt (Nat.lt_of_lt_of_le (Nat.lt_trans (by decide) this) ha)
theorem DictOf_ob {a : Addr} {kvs : List (Int × Value)} (x : h.DictOf (IK w) a kvs) : ∃ ob, h.get? a = some ob ∧ ob.cls = .type "dict" ∧ ob.dict = none := let ⟨o, _, _, ho, hc, _⟩ := x; ⟨o, ho, hc.1, hc.2.1⟩
theorem SetI_ob {a : Addr} {χ : Int → Bool} (x : SetI w h a χ) : ∃ ob, h.get? a = some ob ∧ ob.cls = .type "set" ∧ ob.dict = none := let ⟨o, _, _, _, _, _, ho, d, _⟩ := x; ⟨o, ho, d.ex.1, d.ex.2.1⟩
/-- one address of the set has turned -/
theorem Fm.turn {hb : Heap} {L a : Addr} {m : Str → Option Value} (F : Fm h₀ L hb h m) (s : Heap.SameBut a h h') (n : a ≠ L) (l : h₀.get? a = none) : Fm h₀ L h' h' m :=
  ⟨F.ns.at' fun o e => (s.2 _ (Ne.symm n)).trans e, Heap.ExtBut.refl _ _, F.base.sameBut s l, F.low⟩
end
end
end Mine
namespace Mine
noncomputable section
theorem a_data (w : World) : findIn (KK w) (.ref 170) "_data" = some none := by kernel_rfl
theorem a_orig (w : World) : findIn (KK w) (.ref 170) "_orig" = some none := by kernel_rfl
theorem a_seen (w : World) : findIn (KK w) (.ref 170) "_seen" = some none := by kernel_rfl
theorem a_cv (w : World) : findIn (KK w) (.ref 170) "_cached_changelog" = some none := by kernel_rfl
theorem a_asg (w : World) : findIn (KK w) (.ref 170) "_assigned_ids" = some none := by kernel_rfl
theorem a_newk (w : World) : findIn (KK w) (.ref 170) "new_keys" = some none := by kernel_rfl
section
variable {w : World} {A : Around} {E : Value → Shared → Prop} {h₀ hb h : Heap} {L : Addr} {m : Str → Option Value} {g : Array GenState} {dr : Drawn} {t : Nat} {os : OsState} {env : Env} {s : Shared}
  {p : Ptr} {D O : List (Int × Value)} {S Gs N : Int → Bool}
/-- a local name -/
theorem n_loc {x : Str} {pos : Pos} {v : Value} {Q : Value → Shared → Prop} (fm : Fm h₀ L hb h m) (k : Q v ⟨h, g, dr, t, os⟩) (hv : m x = some v := by rfl) (hk : env.scope.kind = .function := by rfl) (hL : env.locals = L := by rfl)
    (hl : env.kindOf x = some .local := by rfl) (hd : (x == ("__debug__" : Str)) = false := by decide) : wpAny (MM w) A (eval (.Name x pos) env) Q E ⟨h, g, dr, t, os⟩ := m_name fm hv hk hL hl k hd
/-- self.NAME where NAME is one of the six -/
theorem n_att {np pos : Pos} {name : Str} {v : Value} {Q : Value → Shared → Prop} (G : Good0 w h₀) (fm : Fm h₀ L hb h m) (X : AS w h₀ h p D O S Gs N) (hc : findIn (KK w) (.ref 170) name = some none)
    (k : ∀ t', Q v ⟨h, g, dr, t', os⟩) (hv : atts p name = some v := by rfl) (hs : m "self" = some (.ref p.x) := by rfl) (hh : handedIn v = true := by rfl)
    (hk : env.scope.kind = .function := by rfl) (hL : env.locals = L := by rfl) (hl : env.kindOf "self" = some .local := by rfl) :
    wpAny (MM w) A (eval (.Attribute (.Name "self" np) name pos) env) Q E ⟨h, g, dr, t, os⟩ :=
  Attribute_name (m_name fm hs hk hL hl (m_getattr (G.X.keeps fm.base) X.inst X.att.ns hv hc hh k))
/-- o.name(e), a built-in method -/
theorem n_bm1 {o e : Expr} {name : Str} {apos pos : Pos} {T id : String} {Q : Value → Shared → Prop} (pa : PlainAttrs T) (slot : Slot T name id) (hty : typeOf (.builtin id) = pure (.type "method_descriptor"))
    (k : wpAny (MM w) A (eval o env) (fun ov s₁ => ∃ a, ov = .ref a ∧ (∃ ob, s₁.heap.get? a = some ob ∧ ob.cls = .type T ∧ ob.dict = none) ∧
      wpAny (MM w) A (eval e env) (fun v s₂ => wpAny (MM w) A (call (.builtin id) [.ref a, v]) Q E s₂) E s₁) E s)
    (he : eval (.Call (.Attribute o name apos) [e] [] pos) env = (do
      let ov ← eval o env
      standAt apos.atName
      let (f, first) ← holding [ov] (getMethod ov name (do return ((← importBound o env).getD true)))
      callWith pos f first (backTo pos (starEach [e] env)) []) := by rfl)
    (hs : starEach [e] env = (false, eval e env) :: starEach [] env := by rfl) :
    wpAny (MM w) A (eval (.Call (.Attribute o name apos) [e] [] pos) env) Q E s := by
  refine MethodCall_ (wpAny_mono k (fun ov s₁ q => ?_) fun _ _ x => x) he
  obtain ⟨a, rfl, ⟨ob, h1, h2, h3⟩, q⟩ := q
  refine getMethod_builtin ⟨ob, h1, h2⟩ pa slot hty (fun b e => by injection e with e; subst e; exact ⟨ob, h1, h3⟩) ?_
  refine callWith_method1 ?_ hs rfl
  exact args_cons (wpAny_mono q (fun v s₂ q => args_nil q) fun _ _ x => x) hs
theorem n_bm0 {o : Expr} {name : Str} {apos pos : Pos} {T id : String} {Q : Value → Shared → Prop} (pa : PlainAttrs T) (slot : Slot T name id) (hty : typeOf (.builtin id) = pure (.type "method_descriptor"))
    (k : wpAny (MM w) A (eval o env) (fun ov s₁ => ∃ a, ov = .ref a ∧ (∃ ob, s₁.heap.get? a = some ob ∧ ob.cls = .type T ∧ ob.dict = none) ∧ wpAny (MM w) A (call (.builtin id) [.ref a]) Q E s₁) E s)
    (he : eval (.Call (.Attribute o name apos) [] [] pos) env = (do
      let ov ← eval o env
      standAt apos.atName
      let (f, first) ← holding [ov] (getMethod ov name (do return ((← importBound o env).getD true)))
      callWith pos f first (backTo pos (starEach [] env)) []) := by rfl) :
    wpAny (MM w) A (eval (.Call (.Attribute o name apos) [] [] pos) env) Q E s := by
  refine MethodCall_ (wpAny_mono k (fun ov s₁ q => ?_) fun _ _ x => x) he
  obtain ⟨a, rfl, ⟨ob, h1, h2, h3⟩, q⟩ := q
  refine getMethod_builtin ⟨ob, h1, h2⟩ pa slot hty (fun b e => by injection e with e; subst e; exact ⟨ob, h1, h3⟩) ?_
  exact callWith_method0 q
theorem n_bm2 {o e f : Expr} {name : Str} {apos pos : Pos} {T id : String} {Q : Value → Shared → Prop} (pa : PlainAttrs T) (slot : Slot T name id) (hty : typeOf (.builtin id) = pure (.type "method_descriptor"))
    (k : wpAny (MM w) A (eval o env) (fun ov s₁ => ∃ a, ov = .ref a ∧ (∃ ob, s₁.heap.get? a = some ob ∧ ob.cls = .type T ∧ ob.dict = none) ∧
      wpAny (MM w) A (eval e env) (fun v s₂ => wpAny (MM w) A (eval f env) (fun u s₃ => wpAny (MM w) A (call (.builtin id) [.ref a, v, u]) Q E s₃) E s₂) E s₁) E s)
    (he : eval (.Call (.Attribute o name apos) [e, f] [] pos) env = (do
      let ov ← eval o env
      standAt apos.atName
      let (fn, first) ← holding [ov] (getMethod ov name (do return ((← importBound o env).getD true)))
      callWith pos fn first (backTo pos (starEach [e, f] env)) []) := by rfl)
    (hs : starEach [e, f] env = (false, eval e env) :: starEach [f] env := by rfl) (hs' : starEach [f] env = (false, eval f env) :: starEach [] env := by rfl)
    (hp : (backTo pos (starEach [f] env)).any (·.1) = false := by rfl) :
    wpAny (MM w) A (eval (.Call (.Attribute o name apos) [e, f] [] pos) env) Q E s := by
  refine MethodCall_ (wpAny_mono k (fun ov s₁ q => ?_) fun _ _ x => x) he
  obtain ⟨a, rfl, ⟨ob, h1, h2, h3⟩, q⟩ := q
  refine getMethod_builtin ⟨ob, h1, h2⟩ pa slot hty (fun b e => by injection e with e; subst e; exact ⟨ob, h1, h3⟩) ?_
  refine callWith_method1 ?_ hs hp
  exact args_cons (wpAny_mono q (fun v s₂ q => args_cons (wpAny_mono q (fun u s₃ q => args_nil q) fun _ _ x => x) hs') fun _ _ x => x) hs
/-- NAME(e), a built-in function -/
theorem n_bf1 {x : Str} {np pos : Pos} {e : Expr} {id : String} {Q : Value → Shared → Prop} (G : Good0 w h₀) (fm : Fm h₀ L hb h m) (hb' : bootBuiltins x = some (.builtin id)) (hm : nsIn (KK w) mainGlobals x = some none)
    (k : wpAny (MM w) A (eval e env) (fun v s₁ => wpAny (MM w) A (call (.builtin id) [v]) Q E s₁) E ⟨h, g, dr, t, os⟩)
    (hk : env.scope.kind = .function := by rfl) (hg : env.globals = mainGlobals := by rfl) (hbn : env.builtins = builtinsNs := by rfl) (hx : env.kindOf x = some .globalImplicit := by rfl)
    (hn : x ≠ "__name__" := by decide) (hd : (x == ("__debug__" : Str)) = false := by decide) (hs : starEach [e] env = (false, eval e env) :: starEach [] env := by rfl)
    (he : eval (.Call (.Name x np) [e] [] pos) env = (do callWith pos (← eval (.Name x np) env) [] (backTo pos (starEach [e] env)) (backToKw pos (keywordEach [] env))) := by rfl) :
    wpAny (MM w) A (eval (.Call (.Name x np) [e] [] pos) env) Q E ⟨h, g, dr, t, os⟩ := by
  refine Call_ (m_builtin G fm hb' hm hk hg hbn hx ?_ hn hd) he
  exact callWith_builtin1 (args_cons (wpAny_mono k (fun v s₁ q => args_nil q) fun _ _ x => x) hs) hs rfl
/-- a dict's get -/
theorem n_get1 {a : Addr} {kvs : List (Int × Value)} {k : Int} {tk : Tok} {Q : Value → Shared → Prop} (hd : h.DictOf (IK w) a kvs) (hs : (a == sysModules) = false) (kk : ∀ t', Q ((valueAt kvs k).getD .none) ⟨h, g, dr, t', os⟩) :
    wpAny (MM w) A (call (.builtin "dict.get") [.ref a, .int k tk]) Q E ⟨h, g, dr, t, os⟩ :=
  call_meetsIn (s := ⟨h, g, dr, t, os⟩) F.slot_dict_get hd.typeIs F.entry_dict_get (F.args_dict_get_2 _ _) (meets_dict_get (IK w) a (intKind_is PR w k tk) hs) ⟨_, hd.mapOf, kk _⟩
theorem n_get2 {a : Addr} {kvs : List (Int × Value)} {k : Int} {tk : Tok} {d : Value} {Q : Value → Shared → Prop} (hd : h.DictOf (IK w) a kvs) (hs : (a == sysModules) = false) (kk : ∀ t', Q ((valueAt kvs k).getD d) ⟨h, g, dr, t', os⟩) :
    wpAny (MM w) A (call (.builtin "dict.get") [.ref a, .int k tk, d]) Q E ⟨h, g, dr, t, os⟩ :=
  call_meetsIn (s := ⟨h, g, dr, t, os⟩) F.slot_dict_get hd.typeIs F.entry_dict_get (F.args_dict_get_3 _ _ _) (meets_dict_get_default (IK w) a (intKind_is PR w k tk) hs d) ⟨_, hd.mapOf, kk _⟩
noncomputable def setdef (kvs : List (Int × Value)) (k : Int) (v : Value) : List (Int × Value) := if (valueAt kvs k).isSome then kvs else kvs ++ [(k, v)]
theorem n_setdef {a : Addr} {kvs : List (Int × Value)} {k : Int} {tk : Tok} {d : Value} {Q : Value → Shared → Prop} (hd : h.DictOf (IK w) a kvs) (hs : (a == sysModules) = false) (hz : kvs.length < 1000)
    (kk : ∀ v h' t', Heap.SameBut a h h' → h'.DictOf (IK w) a (setdef kvs k d) → Q v ⟨h', g, dr, t', os⟩) :
    wpAny (MM w) A (call (.builtin "dict.setdefault") [.ref a, .int k tk, d]) Q E ⟨h, g, dr, t, os⟩ := by
  refine wpAny_call_entry F.slot_dict_setdefault hd.typeIs F.entry_dict_setdefault ?_ (F.args_dict_setdefault_3 _ _ _)
  unfold Builtin.«dict.setdefault»
  refine wpAny_bind ?_
  unfold Builtin.Dict.keyAndDefault
  refine wpAny_bind (wpAny_notOrdered_dict hd.typeIs ?_)
  show wpAny _ _ (pure (a, Value.int k tk, some d)) _ _ _
  refine wpAny_pure ?_
  show wpAny _ _ (if (a == sysModules) = true then _ else (dictSetDefault a (.int k tk) d >>= _)) _ _ _
  rw [if_neg (by rw [hs]; exact Bool.false_ne_true)]
  have hd' := hd
  obtain ⟨o, es, ep, ho, hc, hda, hk, hp, hn⟩ := hd
  have hkey := intKind_is PR w k tk
  have hes : es.size ≤ sizeLine := by
    have e1 := hp.length
    rw [Array.length_toList] at e1
    rw [sizeLine_eq]; omega
  have hidx : (es.findIdx? fun e => (IK w).is k e.key) = kvs.findIdx? fun kv => decide (kv.1 = k) := by
    rw [← hp.findIdx k]; obtain ⟨l⟩ := es; simp
  unfold dictSetDefault
  refine wpAny_bind (wpAny_holding (wpAny_bind ((IK w).pyHash hkey ?_)))
  refine wpAny_bind (wpAny_dictFind_of (knd := IK w) (s := ⟨h, g, dr, t + 1, os⟩) hkey ho hda hk ?_)
  cases hi : es.findIdx? fun e => (IK w).is k e.key with
  | some i =>
    have hlt : i < es.size := (Array.findIdx?_eq_some_iff_findIdx_eq.mp hi).1
    have hvs : (valueAt kvs k).isSome = true := by
      unfold valueAt
      rw [Option.isSome_map, List.find?_isSome]
      have := any_of_findIdx_some (hidx ▸ hi)
      rw [List.any_eq_true] at this
      exact this
    refine wpAny_bind (wpAny_dictEntries (s := ⟨h, g, dr, t + 1, os⟩) ho hda ?_)
    rw [Array.getElem?_eq_getElem hlt]
    refine wpAny_bind (wpAny_rule (wpAny_pure (wpAny_pure ⟨_, rfl, kk _ h _ (Heap.SameBut.refl _ _) ?_⟩)))
    unfold setdef
    rw [hvs, if_pos rfl]
    exact hd'
  | none =>
    have hnot : k ∉ kvs.map (·.1) := not_mem_of_findIdx_none (hidx ▸ hi)
    have hvs : (valueAt kvs k).isSome = false := by
      unfold valueAt
      rw [Option.isSome_map]
      cases q : kvs.find? (fun kv => decide (kv.1 = k)) with
      | none => rfl
      | some kv => exact absurd (List.mem_map.mpr ⟨kv, List.mem_of_find?_eq_some q, by have := List.find?_some q; simpa using this⟩) hnot
    refine wpAny_bind (wpAny_rule (wpAny_bind (wpAny_updateDictKeys (hz := hes) (s := ⟨h, g, dr, t + 1, os⟩) ho hda (wpAny_pure (wpAny_pure ⟨_, rfl, kk _ _ _ (Heap.SameBut.update ..) ?_⟩)))))
    unfold setdef
    rw [hvs, if_neg (by decide)]
    refine ⟨_, _, ep + 1, Heap.get?_update_self _ ho (Obj.isFreed_of_dict (Obj.data_mapDictKeys hda _)), hc.mapDictKeys _, Obj.data_mapDictKeys hda _, hk.push hkey _, ?_, ?_⟩
    · have := hp.append hkey ((IK w).hash k) d
      obtain ⟨l⟩ := es
      simpa using this
    · rw [List.map_append, List.nodup_append]
      refine ⟨hn, by simp, ?_⟩
      intro a ha b hb
      simp only [List.map_cons, List.map_nil, List.mem_singleton] at hb
      subst hb
      exact fun e => hnot (e ▸ ha)
theorem n_delitem {a : Addr} {kvs : List (Int × Value)} {k : Int} {tk : Tok} {v : Value} {Q : Unit → Shared → Prop} (hd : h.DictOf (IK w) a kvs) (hv : valueAt kvs k = some v) (hz : kvs.length < 1000)
    (kk : ∀ h' t', Heap.SameBut a h h' → h'.DictOf (IK w) a (without kvs k) → Q () ⟨h', g, dr, t', os⟩) : wpAny (MM w) A (delItem (.ref a) (.int k tk)) Q E ⟨h, g, dr, t, os⟩ := by
  refine wpAny_delItem_slot hd.typeIs (by decide) F.slot_dict_delitem (wpAny_call_entry F.slot_dict_delitem hd.typeIs F.entry_dict_delitem ?_ (F.args_dict_delitem_2 _ _))
  unfold Builtin.«dict.__delitem__» Builtin.Dict.dictSlotArgs
  refine wpAny_bind (wpAny_bind (wpAny_notOrdered_dict hd.typeIs (wpAny_pure ?_)))
  refine wpAny_bind (wpAny_pure ?_)
  refine wpAny_bind (wpAny_takeOut_pairs (knd := IK w) (s := ⟨h, g, dr, t, os⟩) (intKind_is PR w k tk) hd (fun e => by rw [hv] at e; cases e) (fun e he hve h' hd' hs' => ?_) (by rw [sizeLine_eq]; omega))
  exact wpAny_bind (wpAny_letGo (wpAny_pure ⟨_, rfl, kk h' _ hs' hd'⟩))
theorem n_setitem {a : Addr} {kvs : List (Int × Value)} {k : Int} {tk : Tok} {v : Value} {Q : Unit → Shared → Prop} (hd : h.DictOf (IK w) a kvs) (hz : kvs.length < 1000)
    (kk : ∀ h' t', Heap.SameBut a h h' → h'.DictOf (IK w) a (stored kvs k v) → Q () ⟨h', g, dr, t', os⟩) : wpAny (MM w) A (setItem (.ref a) (.int k tk) v) Q E ⟨h, g, dr, t, os⟩ :=
  wpAny_setItem_pairs (knd := IK w) (s := ⟨h, g, dr, t, os⟩) (intKind_is PR w k tk) hd (fun h' d' s' => kk h' _ s' d') (by rw [sizeLine_eq]; omega)
end
theorem Fm.keeps {h₀ hb h : Heap} {m : Str → Option Value} {L : Addr} (fm : Fm h₀ L hb h m) (n : hb.objs.size ≤ L) : Keep hb h := fun b o e => fm.ext b o (Nat.ne_of_lt (Nat.lt_of_lt_of_le (Heap.lt_size e) n)) e
section
variable {w : World} {A : Around} {E : Value → Shared → Prop} {h₀ h : Heap} {g : Array GenState} {dr : Drawn} {t : Nat} {os : OsState} {p : Ptr} {D O : List (Int × Value)} {S Gs N : Int → Bool} {key : Int} {tk : Tok} {Q : Value → Shared → Prop}
theorem value_ok (G : Good0 w h₀) (k : Keep h₀ h) (hroom : A.depth < recursionLimit) (X : AS w h₀ h p D O S Gs N) (kk : ∀ h' t', Keep h h' → Q ((valueAt D key).getD .none) ⟨h', g, dr, t', os⟩) :
   wpAny (MM w) A (call (.ref 143) [.ref p.x, .int key tk]) Q E ⟨h, g, dr, t, os⟩ := by
  refine m_call (binds := [("self", .ref p.x), ("lit", .int key tk)]) G k hroom (fn143 w) (by kernel_rfl) (BindsTo.of_eq (by kernel_rfl)) (by kernel_rfl) ?_
  intro h₁ t₁ fm
  have X₁ := X.ext fm.ext X.fresh
  exact wpAny_execs_cons (wpAny_Return_some (n_bm1 F.plainAttrs_dict F.slot_dict_get F.type_dict_get (n_att G fm X₁ (a_data w) fun t' => ⟨_, rfl, DictOf_ob X₁.data, n_loc fm (n_get1 X₁.data (X.sys _ (by simp)) fun t'' => kk _ _ (fm.keeps (Nat.le_refl _)))⟩)))
theorem get_ok (G : Good0 w h₀) (k : Keep h₀ h) (hroom : A.depth < recursionLimit) (X : AS w h₀ h p D O S Gs N) (kk : ∀ h' t', Keep h h' → Q ((valueAt D key).getD .none) ⟨h', g, dr, t', os⟩) :
   wpAny (MM w) A (call (.ref 58) [.ref p.x, .int key tk]) Q E ⟨h, g, dr, t, os⟩ := by
  refine m_call (binds := [("self", .ref p.x), ("key", .int key tk), ("default", .none)]) G k hroom (fn58 w) (by kernel_rfl) (BindsTo.of_defaults (T := 51) (items := #[.none]) (by kernel_rfl) ((G.keep k).X 51 _ rfl) rfl rfl (by kernel_rfl)) (by kernel_rfl) ?_
  intro h₁ t₁ fm
  have X₁ := X.ext fm.ext X.fresh
  exact wpAny_execs_cons (wpAny_Return_some (n_bm2 F.plainAttrs_dict F.slot_dict_get F.type_dict_get (n_att G fm X₁ (a_data w) fun t' => ⟨_, rfl, DictOf_ob X₁.data, n_loc fm (n_loc fm (n_get2 X₁.data (X.sys _ (by simp)) fun t'' => kk _ _ (fm.keeps (Nat.le_refl _))))⟩)))
end
end
end Mine
namespace Mine
noncomputable section
/-- all but l stands -/
noncomputable def Chg (l : List Addr) (h h' : Heap) : Prop := ∀ b o, b ∉ l → h.get? b = some o → h'.get? b = some o
theorem Chg.refl (l : List Addr) (h : Heap) : Chg l h h := fun _ _ _ e => e
theorem Chg.trans {l : List Addr} {a b c : Heap} (x : Chg l a b) (y : Chg l b c) : Chg l a c := fun _ _ n e => y _ _ n (x _ _ n e)
theorem Chg.of_keep {l : List Addr} {a b : Heap} (k : Keep a b) : Chg l a b := fun _ _ _ e => k _ _ e
theorem Chg.of_same {l : List Addr} {a : Addr} {h h' : Heap} (s : Heap.SameBut a h h') (m : a ∈ l) : Chg l h h' := fun b _ n e => (s.2 b fun q => n (q ▸ m)).trans e
theorem Chg.mono {l l' : List Addr} {a b : Heap} (x : Chg l a b) (q : ∀ c ∈ l, c ∈ l') : Chg l' a b := fun _ _ n e => x _ _ (fun m => n (q _ m)) e
theorem Keep.chg {l : List Addr} {h₀ h h' : Heap} (k : Keep h₀ h) (c : Chg l h h') (n : ∀ a ∈ l, h₀.get? a = none) : Keep h₀ h' := fun b o e => c b o (fun m => by rw [n b m] at e; cases e) (k b o e)
theorem Fm.chg {h₀ hb h h' : Heap} {L : Addr} {m : Str → Option Value} {l : List Addr} (F : Fm h₀ L hb h m) (c : Chg l h h') (nL : L ∉ l) (n : ∀ a ∈ l, h₀.get? a = none) : Fm h₀ L h' h' m :=
  ⟨F.ns.at' fun o e => c L o nL e, Heap.ExtBut.refl _ _, F.base.chg c n, F.low⟩
theorem Fm.out {h₀ hb h : Heap} {L : Addr} {m : Str → Option Value} (F : Fm h₀ L hb h m) (n : hb.objs.size ≤ L) : Keep hb h := F.keeps n
noncomputable abbrev ab (k : Int) : Int := if k < 0 then -k else k
theorem b_abs (w : World) : nsIn (KK w) mainGlobals "abs" = some none := by kernel_rfl
theorem b_len (w : World) : nsIn (KK w) mainGlobals "len" = some none := by kernel_rfl
noncomputable abbrev elts (S : Int → Bool) : List Int := K3.filter S
theorem ck_perm : (RR.all fun st => st.2.2.isPerm (K3.filter fun k => st.2.2.contains k)) = true := by decide +kernel
theorem SetD.perm {w : World} {o : Obj} {st : SSt} {es : Array (Int × Value)} {ep fg mv : Nat} {S : Int → Bool} (x : SetD w o st es ep fg mv) (r : ∀ k, S k = st.2.2.contains k) : st.2.2.Perm (elts S) := by
  have := List.isPerm_iff.mp (List.all_eq_true.mp ck_perm st x.mem)
  rw [show elts S = K3.filter fun k => st.2.2.contains k from congrArg (K3.filter ·) (funext r)]
  exact this
section
variable {w : World} {A : Around} {E : Value → Shared → Prop} {h₀ h : Heap} {g : Array GenState} {dr : Drawn} {t : Nat} {os : OsState} {p : Ptr} {D O : List (Int × Value)} {S Gs N : Int → Bool} {key : Int} {tk : Tok} {Q : Value → Shared → Prop}
theorem n_in {Q : Value → Shared → Prop} {a : Addr} {χ : Int → Bool} {k : Int} (hS : SetI w h a χ) (kk : ∀ t', Q (.bool (χ k)) ⟨h, g, dr, t', os⟩) : wpAny (MM w) A (compareOp .In (.int k tk) (.ref a)) Q E ⟨h, g, dr, t, os⟩ := by
  obtain ⟨n, _, x⟩ := hS.setOf
  exact wpAny_inSet_of (knd := IK w) (s := ⟨h, g, dr, t, os⟩) (intKind_is PR w k tk) rfl x (kk _)
theorem n_notin {Q : Value → Shared → Prop} {a : Addr} {χ : Int → Bool} {k : Int} (hS : SetI w h a χ) (kk : ∀ t', Q (.bool (!χ k)) ⟨h, g, dr, t', os⟩) : wpAny (MM w) A (compareOp .NotIn (.int k tk) (.ref a)) Q E ⟨h, g, dr, t, os⟩ := by
  obtain ⟨n, _, x⟩ := hS.setOf
  exact wpAny_notInSet_of (knd := IK w) (s := ⟨h, g, dr, t, os⟩) (intKind_is PR w k tk) rfl x (kk _)
theorem n_len {Q : Value → Shared → Prop} {a : Addr} {χ : Int → Bool} (hS : SetI w h a χ) (kk : ∀ t' tk', Q (.int (elts χ).length tk') ⟨h, g, dr, t', os⟩) : wpAny (MM w) A (call (.builtin "len") [.ref a]) Q E ⟨h, g, dr, t, os⟩ := by
  obtain ⟨o, st, es, ep, fg, mv, ho, d, r⟩ := hS
  have e : es.size = (elts χ).length := by rw [d.size, (d.perm r).length_eq]
  refine call_len_set (s := ⟨h, g, dr, t, os⟩) ho d.ex d.data d.fits (by have := d.le3; omega) ?_
  rw [e]
  exact kk _ _
theorem contains_ok (G : Good0 w h₀) (k : Keep h₀ h) (hroom : A.depth < recursionLimit) (X : AS w h₀ h p D O S Gs N) (kk : ∀ h' t', Keep h h' → Q (.bool (S (ab key))) ⟨h', g, dr, t', os⟩) :
   wpAny (MM w) A (call (.ref 79) [.ref p.x, .int key tk]) Q E ⟨h, g, dr, t, os⟩ := by
  refine m_call (binds := [("self", .ref p.x), ("key", .int key tk)]) G k hroom (fn79 w) (by kernel_rfl) (BindsTo.of_eq (by kernel_rfl)) (by kernel_rfl) ?_
  intro h₁ t₁ fm
  have X₁ := X.ext fm.ext X.fresh
  exact wpAny_execs_cons (wpAny_Return_some (wpAny_Compare1 (n_bf1 G fm boot_abs (b_abs w) (n_loc fm (call_abs_int fun u tk' => n_att G fm X₁ (a_seen w) fun t' => n_in X₁.seen fun t'' => kk _ _ (fm.out (Nat.le_refl _)))))))
theorem len_ok (G : Good0 w h₀) (k : Keep h₀ h) (hroom : A.depth < recursionLimit) (X : AS w h₀ h p D O S Gs N) (kk : ∀ h' t' tk', Keep h h' → Q (.int (elts S).length tk') ⟨h', g, dr, t', os⟩) :
   wpAny (MM w) A (call (.ref 65) [.ref p.x]) Q E ⟨h, g, dr, t, os⟩ := by
  refine m_call (binds := [("self", .ref p.x)]) G k hroom (fn65 w) (by kernel_rfl) (BindsTo.of_eq (by kernel_rfl)) (by kernel_rfl) ?_
  intro h₁ t₁ fm
  have X₁ := X.ext fm.ext X.fresh
  exact wpAny_execs_cons (wpAny_Return_some (n_bf1 G fm boot_len (b_len w) (n_att G fm X₁ (a_seen w) fun t' => n_len X₁.seen fun t'' tk' => kk _ _ _ (fm.out (Nat.le_refl _)))))
end
end
end Mine
namespace Mine
noncomputable section
noncomputable abbrev vOf (D : List (Int × Value)) (k : Int) : Value := (valueAt D k).getD .none
section
variable {w : World} {A : Around} {E : Value → Shared → Prop} {h₀ hb h : Heap} {L : Addr} {m : Str → Option Value} {g : Array GenState} {dr : Drawn} {t : Nat} {os : OsState} {p : Ptr} {D O : List (Int × Value)} {S Gs N : Int → Bool} {key : Int} {tk : Tok} {Q : Value → Shared → Prop} {env : Env}
theorem upd_rest {E' : Value → Shared → Prop} {A' : Around} {h₁ : Heap} {t₁ : Nat} {m₁ : Str → Option Value} {k' : Int} {tk' : Tok} {L : Addr} (G : Good0 w h₀) (X : AS w h₀ h p D O S Gs N) (hz : O.length < 1000) (nL : L ∉ p.addrs) (hfr : h.objs.size ≤ L)
    (fm : Fm h₀ L h h₁ m₁) (hs : m₁ "self" = some (.ref p.x)) (hk : m₁ "key" = some (.int k' tk'))
    (kk : ∀ h' t', AS w h₀ h' { p with cv := .none } D (setdef O k' (vOf D k')) S Gs N → Chg p.addrs h h' → Q .none ⟨h', g, dr, t', os⟩) :
    wpAny (MM w) A' (execs ((bdOf (fdOf (ob110 w).1)).drop 1) (envA (ob110 w).1 110 L)) (fun fl s' => Q (match fl with | .ret v => v | _ => .none) s') E' ⟨h₁, g, dr, t₁, os⟩ := by
  have X₁ := X.ext fm.ext nL
  refine wpAny_execs_cons (wpAny_Assign_Name (n_bm1 F.plainAttrs_dict F.slot_dict_get F.type_dict_get (n_att G fm X₁ (a_data w) (fun t' => ⟨_, rfl, DictOf_ob X₁.data, n_loc fm (n_get1 X₁.data (X.sys _ (by simp)) fun t'' => ?_) hk⟩) (hs := hs))))
  refine m_store fm rfl rfl fun h₂ t₂ fm₂ => ?_
  have X₂ := X.ext fm₂.ext nL
  refine wpAny_execs_cons (wpAny_Expr_any (n_bm2 F.plainAttrs_dict F.slot_dict_setdefault F.type_dict_setdefault (n_att G fm₂ X₂ (a_orig w) (fun t' => ⟨_, rfl, DictOf_ob X₂.orig, n_loc fm₂ (n_loc fm₂ (n_setdef X₂.orig (X.sys _ (by simp)) hz fun v h₃ t₃ s₃ d₃ => ?_)) hk⟩) (hs := hs))))
  have X₃ := X₂.set_orig s₃ d₃
  have fm₃ := fm₂.turn s₃ (fun e => nL (by rw [← e]; simp)) (X.low _ (by simp))
  refine wpAny_execs_cons (plainObj_wpAny_Assign_Attribute (Constant_none (n_loc fm₃ (m_setattr (G.X.keeps fm₃.base) X₃.inst X₃.att (by decide) (a_cv w) fun h₄ t₄ n₄ s₄ => ?_) hs)))
  refine wpAny_execs_nil (kk h₄ t₄ (X₃.set_cv s₄ n₄) ?_)
  exact (Chg.of_keep (fm₂.out hfr)).trans ((Chg.of_same s₃ (by simp)).trans (Chg.of_same s₄ (by simp)))
theorem upd_ok_b {b : Bool} (G : Good0 w h₀) (k : Keep h₀ h) (hroom : A.depth < recursionLimit) (X : AS w h₀ h p D O S Gs N) (hz : O.length < 1000)
   (kk : ∀ h' t', AS w h₀ h' { p with cv := .none } D (setdef O (ab key) (vOf D (ab key))) S Gs N → Chg p.addrs h h' → Q .none ⟨h', g, dr, t', os⟩) :
   wpAny (MM w) A (call (.ref 110) [.ref p.x, .int key tk, .bool b]) Q E ⟨h, g, dr, t, os⟩ := by
  refine m_call (binds := [("self", .ref p.x), ("key", .int key tk), ("value", .bool b)]) G k hroom (fn110 w) (by kernel_rfl) (BindsTo.of_eq (by kernel_rfl)) (by kernel_rfl) ?_
  intro h₁ t₁ fm
  refine wpAny_execs_cons (wpAny_If (isTrue_and (wpAny_isTrue_Compare1 (n_loc fm (wpAny_Constant_int (lt_int (wpAny_truthy_bool ?_)))))))
  by_cases hneg : key < 0
  · rw [decide_eq_true hneg, if_pos rfl]
    refine isTrue_and (wpAny_isTrue_Compare1 (n_loc fm ?_))
    refine Constant_none (wpAny_isNot_other rfl (fun e => nomatch e) (wpAny_truthy_bool ?_))
    rw [if_pos rfl]
    refine isTrue_and_nil ?_
    rw [if_pos rfl]
    refine wpAny_execs_cons (wpAny_Assign_Name (wpAny_UnaryOp (n_loc fm (neg_int (m_store fm rfl rfl fun h₂ t₂ fm₂ => ?_)))))
    refine wpAny_execs_cons (wpAny_Assign_Name (wpAny_UnaryOp (n_loc fm₂ (not_of (wpAny_truthy_bool (m_store fm₂ rfl rfl fun h₃ t₃ fm₃ => ?_))))))
    refine wpAny_execs_nil ?_
    exact upd_rest G X hz X.fresh (Nat.le_refl _) fm₃ rfl rfl fun h' t' X' c => kk h' t' (by rw [show ab key = -key from if_pos hneg]; exact X') c
  · rw [decide_eq_false hneg, if_neg (by decide), if_neg (by decide)]
    refine wpAny_execs_nil ?_
    exact upd_rest (k' := key) G X hz X.fresh (Nat.le_refl _) fm rfl rfl fun h' t' X' c => kk h' t' (by rw [show ab key = key from if_neg hneg]; exact X') c
theorem upd_ok_n (G : Good0 w h₀) (k : Keep h₀ h) (hroom : A.depth < recursionLimit) (X : AS w h₀ h p D O S Gs N) (hz : O.length < 1000)
   (kk : ∀ h' t', AS w h₀ h' { p with cv := .none } D (setdef O key (vOf D key)) S Gs N → Chg p.addrs h h' → Q .none ⟨h', g, dr, t', os⟩) :
   wpAny (MM w) A (call (.ref 110) [.ref p.x, .int key tk, .none]) Q E ⟨h, g, dr, t, os⟩ := by
  refine m_call (binds := [("self", .ref p.x), ("key", .int key tk), ("value", .none)]) G k hroom (fn110 w) (by kernel_rfl) (BindsTo.of_eq (by kernel_rfl)) (by kernel_rfl) ?_
  intro h₁ t₁ fm
  refine wpAny_execs_cons (wpAny_If (isTrue_and (wpAny_isTrue_Compare1 (n_loc fm (wpAny_Constant_int (lt_int (wpAny_truthy_bool ?_)))))))
  have fin : ∀ t₂, wpAny (MM w) (A.deeper (envA (ob110 w).1 110 h.objs.size)) (execs ((bdOf (fdOf (ob110 w).1)).drop 1) (envA (ob110 w).1 110 h.objs.size)) (fun fl s' => Q (match fl with | .ret v => v | _ => .none) s')
      (fun e s' => wpAny (MM w) (A.deeper (envA (ob110 w).1 110 h.objs.size)) (leaving (envA (ob110 w).1 110 h.objs.size) e) (fun _ s'' => E e s'') E s') ⟨h₁, g, dr, t₂, os⟩ :=
    fun t₂ => upd_rest (k' := key) G X hz X.fresh (Nat.le_refl _) fm rfl rfl kk
  by_cases hneg : key < 0
  · rw [decide_eq_true hneg, if_pos rfl]
    refine isTrue_and (wpAny_isTrue_Compare1 (n_loc fm ?_))
    refine Constant_none (wpAny_isNot_self rfl (wpAny_truthy_bool ?_))
    rw [if_neg (by decide), if_neg (by decide)]
    exact wpAny_execs_nil (fin _)
  · rw [decide_eq_false hneg, if_neg (by decide), if_neg (by decide)]
    exact wpAny_execs_nil (fin _)
end
end
end Mine
namespace Mine
noncomputable section
section
variable {w : World} {A : Around} {E : Value → Shared → Prop} {h₀ hb h : Heap} {L : Addr} {m : Str → Option Value} {g : Array GenState} {dr : Drawn} {t : Nat} {os : OsState} {p : Ptr} {D O : List (Int × Value)} {S Gs N : Int → Bool} {key : Int} {tk : Tok} {Q : Value → Shared → Prop} {env : Env}
/-- self.NAME(e, f), a method of the class -/
theorem n_um2 {np apos pos : Pos} {name : Str} {e f : Expr} {fa : Addr} {o : Obj} (G : Good0 w h₀) (fm : Fm h₀ L hb h m) (X : AS w h₀ h p D O S Gs N) (hc : findIn (KK w) (.ref 170) name = some (some (.ref fa))) (fn : FnIs w fa o)
    (k : wpAny (MM w) A (eval e env) (fun v s₁ => wpAny (MM w) A (eval f env) (fun u s₂ => Keep h₀ s₂.heap ∧ wpAny (MM w) A (call (.ref fa) [.ref p.x, v, u]) Q E s₂) E s₁) E ⟨h, g, dr, t, os⟩)
    (hat : atts p name = none := by rfl) (ht : typeIn (KK w) (.ref fa) = some (.type "function") := by kernel_rfl)
    (hself : m "self" = some (.ref p.x) := by rfl) (hk : env.scope.kind = .function := by rfl) (hL : env.locals = L := by rfl) (hl : env.kindOf "self" = some .local := by rfl)
    (he : eval (.Call (.Attribute (.Name "self" np) name apos) [e, f] [] pos) env = (do
      let ov ← eval (.Name "self" np) env
      standAt apos.atName
      let (fx, first) ← holding [ov] (getMethod ov name (do return ((← importBound (.Name "self" np) env).getD true)))
      callWith pos fx first (backTo pos (starEach [e, f] env)) []) := by rfl)
    (hs : starEach [e, f] env = (false, eval e env) :: starEach [f] env := by rfl) (hs' : starEach [f] env = (false, eval f env) :: starEach [] env := by rfl) :
    wpAny (MM w) A (eval (.Call (.Attribute (.Name "self" np) name apos) [e, f] [] pos) env) Q E ⟨h, g, dr, t, os⟩ := by
  refine MethodCall_ (m_name fm hself hk hL hl (m_method (G.X.keeps fm.base) X.inst X.att.ns hat hc ht ?_)) he
  refine callWith_meth (h₀ := h₀) fn.data (G.X _ _ fn.at_) ?_ hs
  exact args_cons (wpAny_mono k (fun v s₁ q => args_cons (wpAny_mono q (fun u s₂ q => args_nil q) fun _ _ x => x) hs') fun _ _ x => x) hs
theorem f_upd (w : World) : findIn (KK w) (.ref 170) "_update_diff" = some (some (.ref 110)) := by kernel_rfl
end
theorem va_cons (x : Int × Value) (l : List (Int × Value)) (j : Int) : valueAt (x :: l) j = if x.1 = j then some x.2 else valueAt l j := by
  unfold valueAt
  rw [List.find?_cons]
  by_cases q : x.1 = j
  · simp [q]
  · simp [q]
theorem va_append (l : List (Int × Value)) (x : Int × Value) (j : Int) : valueAt (l ++ [x]) j = (valueAt l j).or (if x.1 = j then some x.2 else none) := by
  induction l with
  | nil => rw [List.nil_append, va_cons]; rfl
  | cons y l ih =>
    rw [List.cons_append, va_cons, va_cons, ih]
    split <;> simp
theorem va_without (kvs : List (Int × Value)) (k j : Int) : valueAt (without kvs k) j = if j = k then none else valueAt kvs j := by
  induction kvs with
  | nil => simp [without, valueAt]
  | cons x l ih =>
    by_cases q : x.1 = k
    · have : without (x :: l) k = without l k := by simp [without, q]
      rw [this, ih, va_cons]
      by_cases r : j = k
      · rw [if_pos r, if_pos r]
      · rw [if_neg r, if_neg r, if_neg fun e => r (e.symm.trans q)]
    · have : without (x :: l) k = x :: without l k := by simp [without, q]
      rw [this, va_cons, va_cons, ih]
      by_cases r : j = k
      · rw [if_pos r, if_pos r, if_neg fun e => q (e.trans r)]
      · rw [if_neg r, if_neg r]
theorem va_none {kvs : List (Int × Value)} {k : Int} (e : (kvs.any fun kv => decide (kv.1 = k)) = false) : valueAt kvs k = none := by
  unfold valueAt
  cases q : kvs.find? (fun kv => decide (kv.1 = k)) with
  | none => rfl
  | some kv => rw [List.any_eq_false] at e; exact absurd (List.find?_some q) (e kv (List.mem_of_find?_eq_some q))
theorem va_map (kvs : List (Int × Value)) (k : Int) (v : Value) (j : Int) : valueAt (kvs.map fun kv => if kv.1 = k then (kv.1, v) else kv) j = if j = k then (valueAt kvs j).map fun _ => v else valueAt kvs j := by
  induction kvs with
  | nil => simp [valueAt]
  | cons x l ih =>
    rw [List.map_cons, va_cons, va_cons, ih]
    by_cases q : x.1 = k
    · rw [if_pos q]
      dsimp only
      by_cases r : j = k
      · rw [if_pos r, if_pos r, if_pos (q.trans r.symm), if_pos (q.trans r.symm)]; rfl
      · rw [if_neg r, if_neg r, if_neg fun e => r (e.symm.trans q), if_neg fun e => r (e.symm.trans q)]
    · rw [if_neg q]
      by_cases r : j = k
      · rw [if_pos r, if_pos r, if_neg fun e => q (e.trans r), if_neg fun e => q (e.trans r)]
      · rw [if_neg r, if_neg r]
theorem va_stored (kvs : List (Int × Value)) (k : Int) (v : Value) (j : Int) : valueAt (stored kvs k v) j = if j = k then some v else valueAt kvs j := by
  unfold stored
  cases q : kvs.any fun kv => decide (kv.1 = k) with
  | true =>
    rw [if_pos rfl, va_map]
    by_cases r : j = k
    · rw [if_pos r, if_pos r]
      subst r
      have : (valueAt kvs j).isSome = true := by
        unfold valueAt
        rw [Option.isSome_map, List.find?_isSome]
        exact List.any_eq_true.mp q
      obtain ⟨y, hy⟩ := Option.isSome_iff_exists.mp this
      rw [hy]; rfl
    · rw [if_neg r, if_neg r]
  | false =>
    rw [if_neg (by decide), va_append]
    by_cases r : j = k
    · subst r
      rw [va_none q, if_pos rfl]; rfl
    · rw [if_neg r, if_neg fun e => r e.symm, Option.or_none]
theorem va_setdef (kvs : List (Int × Value)) (k : Int) (v : Value) (j : Int) : valueAt (setdef kvs k v) j = if j = k then some ((valueAt kvs k).getD v) else valueAt kvs j := by
  unfold setdef
  cases q : valueAt kvs k with
  | some y =>
    rw [if_pos (show (some y).isSome = true from rfl)]
    by_cases r : j = k
    · subst r; rw [if_pos rfl, q]; rfl
    · rw [if_neg r]
  | none =>
    rw [if_neg (by simp), va_append]
    by_cases r : j = k
    · subst r; rw [q, if_pos rfl, if_pos rfl]; rfl
    · rw [if_neg r, if_neg fun e => r e.symm, Option.or_none]
theorem len_without (kvs : List (Int × Value)) (k : Int) : (without kvs k).length ≤ kvs.length := List.length_filter_le _ _
theorem len_setdef (kvs : List (Int × Value)) (k : Int) (v : Value) : (setdef kvs k v).length ≤ kvs.length + 1 := by
  unfold setdef
  split
  · omega
  · simp
section
variable {w : World} {A : Around} {E : Value → Shared → Prop} {h₀ hb h : Heap} {L : Addr} {m : Str → Option Value} {g : Array GenState} {dr : Drawn} {t : Nat} {os : OsState} {p : Ptr} {D O : List (Int × Value)} {S Gs N : Int → Bool} {key : Int} {tk : Tok} {Q : Value → Shared → Prop} {env : Env}
theorem ab_neg (k : Int) : ab (-k) = ab k := by unfold ab; split <;> split <;> omega
theorem del_none (G : Good0 w h₀) (k : Keep h₀ h) (hroom : A.depth + 1 < recursionLimit) (X : AS w h₀ h p D O S Gs N) (hk3 : ab key ∈ K3) (hv : valueAt D key = none)
   (kk : ∀ h' t', AS w h₀ h' p D O (fun j => S j && j != ab key) Gs N → Chg p.addrs h h' → Q .none ⟨h', g, dr, t', os⟩) :
   wpAny (MM w) A (call (.ref 43) [.ref p.x, .int key tk]) Q E ⟨h, g, dr, t, os⟩ := by
  refine m_call (binds := [("self", .ref p.x), ("key", .int key tk)]) G k (by omega) (fn43 w) (by kernel_rfl) (BindsTo.of_eq (by kernel_rfl)) (by kernel_rfl) ?_
  intro h₁ t₁ fm
  have X₁ := X.ext fm.ext X.fresh
  refine wpAny_execs_cons (wpAny_Expr_any (n_bm1 F.plainAttrs_set F.slot_set_discard F.type_set_discard (n_att G fm X₁ (a_seen w) fun t' => ⟨_, rfl, SetI_ob X₁.seen, n_bf1 G fm boot_abs (b_abs w) (n_loc fm (call_abs_int fun u tk' => m_discard X₁.seen hk3 fun h₂ t₂ s₂ i₂ => ?_))⟩)))
  have X₂ := X₁.set_seen s₂ i₂
  have fm₂ := fm.turn s₂ (fun e => X.fresh (by rw [← e]; simp)) (X.low _ (by simp))
  have c₂ : Chg p.addrs h h₂ := (Chg.of_keep (fm.out (Nat.le_refl _))).trans (Chg.of_same s₂ (by simp))
  refine wpAny_execs_cons (wpAny_If (wpAny_isTrue_Compare1 (n_loc fm₂ (n_att G fm₂ X₂ (a_data w) fun t' => wpAny_notIn_of (knd := IK w) (intKind_is PR w key tk) (X.sys _ (by simp)) X₂.data.mapOf (wpAny_truthy_bool ?_)))))
  rw [hv]
  refine wpAny_execs_cons (wpAny_Return_none ?_)
  exact kk h₂ _ X₂ c₂
theorem del_some {v v' : Value} (G : Good0 w h₀) (k : Keep h₀ h) (hroom : A.depth + 1 < recursionLimit) (X : AS w h₀ h p D O S Gs N) (hk3 : ab key ∈ K3) (hv : valueAt D key = some v) (hv' : valueAt D (-key) = some v') (hz : O.length < 1000) (hz' : D.length < 1000)
   (kk : ∀ h' t', AS w h₀ h' { p with cv := .none } (without (without D key) (-key)) (setdef O key v) (fun j => S j && j != ab key) (fun j => Gs j && j != ab key) N → Chg p.addrs h h' → Q .none ⟨h', g, dr, t', os⟩) :
   wpAny (MM w) A (call (.ref 43) [.ref p.x, .int key tk]) Q E ⟨h, g, dr, t, os⟩ := by
  have hne : -key ≠ key := by
    intro e
    have : key = 0 := by omega
    subst this
    exact absurd hk3 (by decide)
  refine m_call (binds := [("self", .ref p.x), ("key", .int key tk)]) G k (by omega) (fn43 w) (by kernel_rfl) (BindsTo.of_eq (by kernel_rfl)) (by kernel_rfl) ?_
  intro h₁ t₁ fm
  have X₁ := X.ext fm.ext X.fresh
  refine wpAny_execs_cons (wpAny_Expr_any (n_bm1 F.plainAttrs_set F.slot_set_discard F.type_set_discard (n_att G fm X₁ (a_seen w) fun t' => ⟨_, rfl, SetI_ob X₁.seen, n_bf1 G fm boot_abs (b_abs w) (n_loc fm (call_abs_int fun u tk' => m_discard X₁.seen hk3 fun h₂ t₂ s₂ i₂ => ?_))⟩)))
  have X₂ := X₁.set_seen s₂ i₂
  have fm₂ := fm.turn s₂ (fun e => X.fresh (by rw [← e]; simp)) (X.low _ (by simp))
  have c₂ : Chg p.addrs h h₂ := (Chg.of_keep (fm.out (Nat.le_refl _))).trans (Chg.of_same s₂ (by simp))
  refine wpAny_execs_cons (wpAny_If (wpAny_isTrue_Compare1 (n_loc fm₂ (n_att G fm₂ X₂ (a_data w) fun t' => wpAny_notIn_of (knd := IK w) (intKind_is PR w key tk) (X.sys _ (by simp)) X₂.data.mapOf (wpAny_truthy_bool ?_)))))
  rw [hv]
  refine wpAny_execs_nil ?_
  refine wpAny_execs_cons (wpAny_Expr_any (n_um2 G fm₂ X₂ (f_upd w) (fn110 w) (n_loc fm₂ (Constant_none ⟨fm₂.base, upd_ok_n G fm₂.base hroom X₂ hz fun h₃ t₃ X₃ c₃ => ?_⟩))))
  have fm₃ := fm₂.chg c₃ X.fresh X.low
  have dd : vOf D key = v := by unfold vOf; rw [hv]; rfl
  rw [dd] at X₃
  refine wpAny_execs_cons (wpAny_Delete (wpAny_deleteEach_cons (wpAny_delete_Subscript (n_att G fm₃ X₃ (a_data w) fun t' => n_loc fm₃ (n_delitem X₃.data hv hz' fun h₄ t₄ s₄ d₄ => wpAny_deleteEach_nil ?_)))))
  have X₄ := X₃.set_data s₄ d₄
  have fm₄ := fm₃.turn s₄ (fun e => X.fresh (by rw [← e]; simp)) (X.low _ (by simp))
  refine wpAny_execs_cons (wpAny_Delete (wpAny_deleteEach_cons (wpAny_delete_Subscript (n_att G fm₄ X₄ (a_data w) fun t' => wpAny_UnaryOp (n_loc fm₄ (neg_int (n_delitem X₄.data ((va_without D key (-key)).trans ((if_neg hne).trans hv')) (Nat.lt_of_le_of_lt (len_without _ _) hz') fun h₅ t₅ s₅ d₅ => wpAny_deleteEach_nil ?_)))))))
  have X₅ := X₄.set_data s₅ d₅
  have fm₅ := fm₄.turn s₅ (fun e => X.fresh (by rw [← e]; simp)) (X.low _ (by simp))
  refine wpAny_execs_cons (wpAny_Expr_any (n_bm1 F.plainAttrs_set F.slot_set_discard F.type_set_discard (n_att G fm₅ X₅ (a_asg w) fun t' => ⟨_, rfl, SetI_ob X₅.asg, n_bf1 G fm₅ boot_abs (b_abs w) (n_loc fm₅ (call_abs_int fun u tk' => m_discard X₅.asg hk3 fun h₆ t₆ s₆ i₆ => ?_))⟩)))
  have X₆ := X₅.set_asg s₆ i₆
  exact wpAny_execs_nil (kk h₆ _ X₆ (c₂.trans (c₃.trans ((Chg.of_same s₄ (by simp)).trans ((Chg.of_same s₅ (by simp)).trans (Chg.of_same s₆ (by simp)))))))
end
end
end Mine
namespace Mine
noncomputable section
theorem c_noseq (w : World) : noSeq (KK w) 170 = true := by kernel_rfl
theorem f_set (w : World) : findIn (KK w) (.ref 170) "__setitem__" = some (some (.ref 36)) := by kernel_rfl
theorem f_del (w : World) : findIn (KK w) (.ref 170) "__delitem__" = some (some (.ref 43)) := by kernel_rfl
theorem f_get (w : World) : findIn (KK w) (.ref 170) "__getitem__" = some (some (.ref 50)) := by kernel_rfl
theorem f_cont (w : World) : findIn (KK w) (.ref 170) "__contains__" = some (some (.ref 79)) := by kernel_rfl
section
variable {w : World} {A : Around} {E : Value → Shared → Prop} {h₀ hb h : Heap} {L : Addr} {m : Str → Option Value} {g : Array GenState} {dr : Drawn} {t : Nat} {os : OsState} {p : Ptr} {D O : List (Int × Value)} {S Gs N : Int → Bool} {key : Int} {tk : Tok} {Q : Value → Shared → Prop} {env : Env}
theorem o_del {x d : Addr} {f : Str → Option Value} {i : Value} {Q : Unit → Shared → Prop} (X : (KK w).In h) (hx : h.get? x = some (instObj 170 d)) (hn : h.Ns d f)
    (k : wpAny (MM w) A (call (.ref 43) [.ref x, i]) (fun _ s' => Q () s') E ⟨h, g, dr, t, os⟩) : wpAny (MM w) A (delItem (.ref x) i) Q E ⟨h, g, dr, t, os⟩ := by
  obtain ⟨od, I, _⟩ := inst_at hx hn
  unfold delItem sequenceKey
  refine wpAny_holding (wpAny_bind (wpAny_bind (I.type.here ?_)))
  refine wpAny_bind ((anyM_none X (c_noseq w)).here ?_)
  rw [if_pos (show (!false) = true from rfl)]
  exact wpAny_pure (wpAny_bind (special_fn (s := ⟨h, g, dr, t, os⟩) X I (f_del w) (by kernel_rfl) (wpAny_mono k (fun _ _ z => wpAny_pure z) fun _ _ z => z)))
theorem o_set {x d : Addr} {f : Str → Option Value} {i v : Value} {Q : Unit → Shared → Prop} (X : (KK w).In h) (hx : h.get? x = some (instObj 170 d)) (hn : h.Ns d f)
    (k : wpAny (MM w) A (call (.ref 36) [.ref x, i, v]) (fun _ s' => Q () s') E ⟨h, g, dr, t, os⟩) : wpAny (MM w) A (setItem (.ref x) i v) Q E ⟨h, g, dr, t, os⟩ := by
  obtain ⟨od, I, _⟩ := inst_at hx hn
  unfold setItem sequenceKey
  refine wpAny_holding (wpAny_bind (wpAny_bind (I.type.here ?_)))
  refine wpAny_bind ((anyM_none X (c_noseq w)).here ?_)
  rw [if_pos (show (!false) = true from rfl)]
  exact wpAny_pure (wpAny_bind (special_fn (s := ⟨h, g, dr, t, os⟩) X I (f_set w) (by kernel_rfl) (wpAny_mono k (fun _ _ z => wpAny_pure z) fun _ _ z => z)))
/-- the three parts of __setitem__: its opening -/
theorem set_open {v : Value} {E' : Value → Shared → Prop} {A' : Around} {h₁ : Heap} {t₁ : Nat} {L : Addr} {R : Flow → Shared → Prop} (G : Good0 w h₀) (X : AS w h₀ h p D O S Gs N) (nL : L ∉ p.addrs) (hk3 : ab key ∈ K3)
    (fm : Fm h₀ L h h₁ (fun x => [(("self" : Str), Value.ref p.x), ("key", .int key tk), ("value", v)].reverse.lookup x))
    (kk : ∀ h₂ t₂ u, Fm h₀ L h₂ h₂ (fun y => if y = "abskey" then some (.int (ab key) u) else [(("self" : Str), Value.ref p.x), ("key", .int key tk), ("value", v)].reverse.lookup y) → AS w h₀ h₂ p D O S Gs (fun j => N j || (!S (ab key) && j == ab key)) → Heap.ExtBut L h₁ h₁ →
      Chg (L :: p.addrs) h h₂ → wpAny (MM w) A' (execs ((bdOf (fdOf (ob36 w).1)).drop 2) (envA (ob36 w).1 36 L)) R E' ⟨h₂, g, dr, t₂, os⟩) :
    wpAny (MM w) A' (execs (bdOf (fdOf (ob36 w).1)) (envA (ob36 w).1 36 L)) R E' ⟨h₁, g, dr, t₁, os⟩ := by
  refine wpAny_execs_cons (wpAny_Assign_Name (n_bf1 G fm boot_abs (b_abs w) (n_loc fm (call_abs_int fun u tk' => m_store fm rfl rfl fun h₂ t₂ fm₂ => ?_))))
  have X₂ := X.ext fm₂.ext nL
  have c₂ : Chg (L :: p.addrs) h h₂ := fun b o n e => fm₂.ext b o (fun q => n (by rw [q]; simp)) e
  refine wpAny_execs_cons (wpAny_If (wpAny_isTrue_Compare1 (n_loc fm₂ (n_att G fm₂ X₂ (a_seen w) fun t' => n_notin X₂.seen fun t'' => wpAny_truthy_bool ?_))))
  cases hS : S (ab key) with
  | true =>
    refine wpAny_execs_nil (kk h₂ _ u fm₂.here ?_ (Heap.ExtBut.refl _ _) c₂)
    have e : (fun j => N j || (!S (ab key) && j == ab key)) = N := by funext j; rw [hS]; simp
    rw [e]; exact X₂
  | false =>
    refine wpAny_execs_cons (wpAny_Expr_any (n_bm1 F.plainAttrs_set F.slot_set_add F.type_set_add (n_att G fm₂ X₂ (a_newk w) fun t' => ⟨_, rfl, SetI_ob X₂.newk, n_loc fm₂ (m_add X₂.newk hk3 fun h₃ t₃ s₃ i₃ => ?_)⟩)))
    refine wpAny_execs_nil (kk h₃ _ u (fm₂.turn s₃ (fun e => nL (by rw [← e]; simp)) (X.low _ (by simp))) ?_ (Heap.ExtBut.refl _ _) (c₂.trans (Chg.of_same s₃ (by simp))))
    have e : (fun j => N j || (!S (ab key) && j == ab key)) = fun j => N j || j == ab key := by funext j; rw [hS]; simp
    rw [e]; exact X₂.set_newk s₃ i₃
/-- and its end -/
theorem set_end {v : Value} {E' : Value → Shared → Prop} {A' : Around} {h₂ hb : Heap} {t₁ : Nat} {L : Addr} {u : Tok} {N' : Int → Bool} (G : Good0 w h₀) (X : AS w h₀ h₂ p D O S Gs N') (nL : L ∉ p.addrs) (hk3 : ab key ∈ K3)
    (fm : Fm h₀ L hb h₂ (fun y => if y = "abskey" then some (.int (ab key) u) else [(("self" : Str), Value.ref p.x), ("key", .int key tk), ("value", v)].reverse.lookup y))
    (kk : ∀ h' t', AS w h₀ h' p D O (fun j => S j || j == ab key) Gs N' → Chg p.addrs h₂ h' → Q .none ⟨h', g, dr, t', os⟩) :
    wpAny (MM w) A' (execs ((bdOf (fdOf (ob36 w).1)).drop 3) (envA (ob36 w).1 36 L)) (fun fl s' => Q (match fl with | .ret v => v | _ => .none) s') E' ⟨h₂, g, dr, t₁, os⟩ := by
  refine wpAny_execs_cons (wpAny_Expr_any (n_bm1 F.plainAttrs_set F.slot_set_add F.type_set_add (n_att G fm X (a_seen w) fun t' => ⟨_, rfl, SetI_ob X.seen, n_loc fm (m_add X.seen hk3 fun h₃ t₃ s₃ i₃ => ?_)⟩)))
  exact wpAny_execs_nil (kk h₃ _ (X.set_seen s₃ i₃) (Chg.of_same s₃ (by simp)))
theorem chg_fresh {L : Addr} {l : List Addr} {h h' : Heap} (c : Chg (L :: l) h h') (n : h.objs.size ≤ L) : Chg l h h' := fun b o hb e => c b o (fun q => by
  rcases List.mem_cons.mp q with rfl | q
  · exact absurd (Heap.lt_size e) (Nat.not_lt.mpr n)
  · exact hb q) e
theorem set_bool {b : Bool} (G : Good0 w h₀) (k : Keep h₀ h) (hroom : A.depth + 1 < recursionLimit) (X : AS w h₀ h p D O S Gs N) (hk3 : ab key ∈ K3) (hz : O.length < 1000) (hz' : D.length < 900)
   (kk : ∀ h' t', AS w h₀ h' { p with cv := .none } (stored (stored D key (.bool b)) (-key) (.bool (!b))) (setdef O (ab key) (vOf D (ab key))) (fun j => S j || j == ab key) (fun j => Gs j || j == ab key) (fun j => N j || (!S (ab key) && j == ab key)) →
      Chg p.addrs h h' → Q .none ⟨h', g, dr, t', os⟩) :
   wpAny (MM w) A (call (.ref 36) [.ref p.x, .int key tk, .bool b]) Q E ⟨h, g, dr, t, os⟩ := by
  refine m_call (binds := [("self", .ref p.x), ("key", .int key tk), ("value", .bool b)]) G k (by omega) (fn36 w) (by kernel_rfl) (BindsTo.of_eq (by kernel_rfl)) (by kernel_rfl) ?_
  intro h₁ t₁ fm
  refine set_open G X X.fresh hk3 fm fun h₂ t₂ u fm₂ X₂ _ c₂ => ?_
  have c₂ := chg_fresh c₂ (Nat.le_refl _)
  refine wpAny_execs_cons (wpAny_If (wpAny_isTrue_Compare1 (n_loc fm₂ ?_)))
  refine Constant_none (wpAny_is_other rfl (fun e => nomatch e) (wpAny_truthy_bool ?_))
  rw [if_neg (by decide)]
  refine wpAny_execs_cons (wpAny_Expr_any (n_um2 G fm₂ X₂ (f_upd w) (fn110 w) (n_loc fm₂ (n_loc fm₂ ⟨fm₂.base, upd_ok_b G fm₂.base hroom X₂ hz fun h₃ t₃ X₃ c₃ => ?_⟩))))
  have fm₃ := fm₂.chg c₃ X.fresh X.low
  refine wpAny_execs_cons (wpAny_Assign_Subscript (n_loc fm₃ (n_att G fm₃ X₃ (a_data w) fun t' => n_loc fm₃ (n_setitem X₃.data (by omega) fun h₄ t₄ s₄ d₄ => ?_))))
  have X₄ := X₃.set_data s₄ d₄
  have fm₄ := fm₃.turn s₄ (fun e => X.fresh (by rw [← e]; simp)) (X.low _ (by simp))
  have hl := stored_length_le D key (.bool b)
  refine wpAny_execs_cons (wpAny_Assign_Subscript (wpAny_UnaryOp (n_loc fm₄ ?_)))
  refine not_of (wpAny_truthy_bool (n_att G fm₄ X₄ (a_data w) fun t' => wpAny_UnaryOp (n_loc fm₄ (neg_int (n_setitem X₄.data (by omega) fun h₅ t₅ s₅ d₅ => ?_)))))
  have X₅ := X₄.set_data s₅ d₅
  have fm₅ := fm₄.turn s₅ (fun e => X.fresh (by rw [← e]; simp)) (X.low _ (by simp))
  refine wpAny_execs_cons (wpAny_Expr_any (n_bm1 F.plainAttrs_set F.slot_set_add F.type_set_add (n_att G fm₅ X₅ (a_asg w) fun t' => ⟨_, rfl, SetI_ob X₅.asg, n_bf1 G fm₅ boot_abs (b_abs w) (n_loc fm₅ (call_abs_int fun u tk' => m_add X₅.asg hk3 fun h₆ t₆ s₆ i₆ => ?_))⟩)))
  have X₆ := X₅.set_asg s₆ i₆
  have fm₆ := fm₅.turn s₆ (fun e => X.fresh (by rw [← e]; simp)) (X.low _ (by simp))
  refine wpAny_execs_nil ?_
  exact set_end G X₆ X.fresh hk3 fm₆ fun h₇ t₇ X₇ c₇ => kk h₇ t₇ X₇ (c₂.trans (c₃.trans ((Chg.of_same s₄ (by simp)).trans ((Chg.of_same s₅ (by simp)).trans ((Chg.of_same s₆ (by simp)).trans c₇)))))
theorem or_and (S : Int → Bool) (a : Int) : (fun j => (S j && j != a) || j == a) = fun j => S j || j == a := by
  funext j
  by_cases e : j = a
  · subst e; simp
  · rw [bne_iff_ne.mpr e, Bool.and_true]
theorem set_none_none (G : Good0 w h₀) (k : Keep h₀ h) (hroom : A.depth + 2 < recursionLimit) (X : AS w h₀ h p D O S Gs N) (hk3 : ab key ∈ K3) (hv : valueAt D key = none)
   (kk : ∀ h' t', AS w h₀ h' p D O (fun j => S j || j == ab key) Gs (fun j => N j || (!S (ab key) && j == ab key)) → Chg p.addrs h h' → Q .none ⟨h', g, dr, t', os⟩) :
   wpAny (MM w) A (call (.ref 36) [.ref p.x, .int key tk, .none]) Q E ⟨h, g, dr, t, os⟩ := by
  refine m_call (binds := [("self", .ref p.x), ("key", .int key tk), ("value", .none)]) G k (by omega) (fn36 w) (by kernel_rfl) (BindsTo.of_eq (by kernel_rfl)) (by kernel_rfl) ?_
  intro h₁ t₁ fm
  refine set_open G X X.fresh hk3 fm fun h₂ t₂ u fm₂ X₂ _ c₂ => ?_
  have c₂ := chg_fresh c₂ (Nat.le_refl _)
  refine wpAny_execs_cons (wpAny_If (wpAny_isTrue_Compare1 (n_loc fm₂ ?_)))
  refine Constant_none (wpAny_is_self rfl (wpAny_truthy_bool ?_))
  rw [if_pos rfl]
  refine wpAny_execs_cons (wpAny_Delete (wpAny_deleteEach_cons (wpAny_delete_Subscript (n_loc fm₂ (n_loc fm₂ (o_del (G.X.keeps fm₂.base) X₂.inst X₂.att.ns (del_none G fm₂.base (by show A.depth + 1 + 1 < _; omega) X₂ hk3 hv fun h₃ t₃ X₃ c₃ => wpAny_deleteEach_nil ?_)))))))
  have fm₃ := fm₂.chg c₃ X.fresh X.low
  refine wpAny_execs_nil ?_
  refine set_end G X₃ X.fresh hk3 fm₃ fun h₇ t₇ X₇ c₇ => kk h₇ t₇ ?_ (c₂.trans (c₃.trans c₇))
  rw [or_and] at X₇
  exact X₇
theorem set_none_some {v v' : Value} (G : Good0 w h₀) (k : Keep h₀ h) (hroom : A.depth + 2 < recursionLimit) (X : AS w h₀ h p D O S Gs N) (hk3 : ab key ∈ K3) (hv : valueAt D key = some v) (hv' : valueAt D (-key) = some v') (hz : O.length < 1000) (hz' : D.length < 1000)
   (kk : ∀ h' t', AS w h₀ h' { p with cv := .none } (without (without D key) (-key)) (setdef O key v) (fun j => S j || j == ab key) (fun j => Gs j && j != ab key) (fun j => N j || (!S (ab key) && j == ab key)) → Chg p.addrs h h' → Q .none ⟨h', g, dr, t', os⟩) :
   wpAny (MM w) A (call (.ref 36) [.ref p.x, .int key tk, .none]) Q E ⟨h, g, dr, t, os⟩ := by
  refine m_call (binds := [("self", .ref p.x), ("key", .int key tk), ("value", .none)]) G k (by omega) (fn36 w) (by kernel_rfl) (BindsTo.of_eq (by kernel_rfl)) (by kernel_rfl) ?_
  intro h₁ t₁ fm
  refine set_open G X X.fresh hk3 fm fun h₂ t₂ u fm₂ X₂ _ c₂ => ?_
  have c₂ := chg_fresh c₂ (Nat.le_refl _)
  refine wpAny_execs_cons (wpAny_If (wpAny_isTrue_Compare1 (n_loc fm₂ ?_)))
  refine Constant_none (wpAny_is_self rfl (wpAny_truthy_bool ?_))
  rw [if_pos rfl]
  refine wpAny_execs_cons (wpAny_Delete (wpAny_deleteEach_cons (wpAny_delete_Subscript (n_loc fm₂ (n_loc fm₂ (o_del (G.X.keeps fm₂.base) X₂.inst X₂.att.ns (del_some G fm₂.base (by show A.depth + 1 + 1 < _; omega) X₂ hk3 hv hv' hz hz' fun h₃ t₃ X₃ c₃ => wpAny_deleteEach_nil ?_)))))))
  have fm₃ := fm₂.chg c₃ X.fresh X.low
  refine wpAny_execs_nil ?_
  refine set_end (p := { p with cv := .none }) G X₃ X.fresh hk3 fm₃ fun h₇ t₇ X₇ c₇ => kk h₇ t₇ ?_ (c₂.trans (c₃.trans c₇))
  rw [or_and] at X₇
  exact X₇
end
end
end Mine
namespace Mine
noncomputable section
/-- the tests of a clause -/
noncomputable abbrev testsOf (ifs : List PySem.Expr) (env : Env) : Sem Bool := forIn ifs true fun c r => if r = true then do let ok ← isTrue c env (eval c env); pure (ForInStep.yield ok) else pure (ForInStep.yield r)
section
variable {w : World} {A : Around} {E : Value → Shared → Prop} {env : Env} {R : Result → Shared → Prop} {s : Shared}
theorem p_none {elt target iter : PySem.Expr} {ifs : List PySem.Expr} {scope : Scope} {pos : Pos} {it acc : Value}
    (h : wpAny (MM w) A (pyNext it) (fun r s₁ => r = none ∧ R (.ok .next) s₁) (notedBy (MM w) A env fun e s' => R (.error e) s') s) :
    codeAny (MM w) A (.compLoop (.ListComp elt [⟨target, iter, ifs, 0⟩] scope pos) 0 it acc env) R s := by
  refine codeAny_of_tree ?_
  show wpAny _ A ((compTurn (.ListComp elt [⟨target, iter, ifs, 0⟩] scope pos) 0 it acc env).onRaise (fun x => do noteFrame x env; theTreesLotGoes x)) _ _ s
  refine wpAny_noted ?_
  rw [compTurn_list]
  refine wpAny_bind (wpAny_standAt (wpAny_bind (wpAny_mono h (fun r s₁ h₁ => ?_) fun _ _ h' => h')))
  obtain ⟨rfl, h₁⟩ := h₁
  exact wpAny_pure h₁
theorem p_some {elt target iter : PySem.Expr} {ifs : List PySem.Expr} {scope : Scope} {pos : Pos} {it acc : Value} {E' : Value → Shared → Prop}
    (h : wpAny (MM w) A (pyNext it) (fun r s₁ => ∃ v, r = some v ∧ wpAny (MM w) A (letOwnedTupleGo target it v) (fun _ s₂ => wpAny (MM w) A (assign target env v) (fun _ s₃ => wpAny (MM w) A (testsOf ifs env) (fun ok s₄ =>
      if ok = true then wpAny (MM w) A (eval elt env) (fun y s₅ => wpAny (MM w) A (call (.builtin "list.append") [acc, y]) (fun _ s₆ => codeAny (MM w) A (.compLoop (.ListComp elt [⟨target, iter, ifs, 0⟩] scope pos) 0 it acc env) R s₆) E' s₅) E' s₄
      else codeAny (MM w) A (.compLoop (.ListComp elt [⟨target, iter, ifs, 0⟩] scope pos) 0 it acc env) R s₄) E' s₃) E' s₂) E' s₁) E' s)
    (hE : ∀ e s, E' e s → notedBy (MM w) A env (fun e s' => R (.error e) s') e s) :
    codeAny (MM w) A (.compLoop (.ListComp elt [⟨target, iter, ifs, 0⟩] scope pos) 0 it acc env) R s := by
  refine codeAny_of_tree ?_
  show wpAny _ A ((compTurn (.ListComp elt [⟨target, iter, ifs, 0⟩] scope pos) 0 it acc env).onRaise (fun x => do noteFrame x env; theTreesLotGoes x)) _ _ s
  refine wpAny_noted ?_
  rw [compTurn_list]
  refine wpAny_bind (wpAny_standAt (wpAny_bind (wpAny_mono h (fun r s₁ h₁ => ?_) hE)))
  obtain ⟨v, rfl, h₁⟩ := h₁
  refine wpAny_bind (wpAny_mono h₁ (fun _ s₂ h₂ => wpAny_bind (wpAny_mono h₂ (fun _ s₃ h₃ => wpAny_bind (wpAny_mono h₃ (fun ok s₄ h₄ => ?_) hE)) hE)) hE)
  cases ok with
  | false => exact wpAny_pure ⟨rfl, h₄⟩
  | true => exact wpAny_bind (wpAny_bind (wpAny_mono h₄ (fun y s₅ h₅ => wpAny_bind (wpAny_mono h₅ (fun _ s₆ h₆ => wpAny_pure (wpAny_pure ⟨rfl, h₆⟩)) hE)) hE))
end
section
variable {w : World} {A : Around} {E : Value → Shared → Prop} {env : Env} {g : Array GenState} {dr : Drawn} {os : OsState} {h₂ : Heap} {t₂ : Nat}
/-- the turns of a comprehension over an iterator -/
theorem p_turns {elt target iter : PySem.Expr} {ifs : List PySem.Expr} {scope : Scope} {cl : List (Str × Addr)} {pos : Pos} {I C D : Addr} {fp wr : List Addr} {n : Nat} {P : Nat → Value → Prop} {St : Nat → Heap → Prop} {J : Nat → List Value → Heap → Prop} {R : Result → Shared → Prop}
    (W : Walks PR w A I fp wr n P St) (hn : n < 1000) (hC : h₂.objs.size ≤ C) (hD : h₂.objs.size ≤ D) (hCD : C ≠ D) (hfp : ∀ b ∈ fp, b < h₂.objs.size)
    (hJ : ∀ i ys h h', J i ys h → (∀ b o, b ∉ wr → o.cls = .type "tuple" → (∃ vs k, o.data = .seq vs k) → h.get? b = some o → h'.get? b = some o) → J i ys h')
    (step : ∀ i v h t m ys, i < n → P i v → ys.length ≤ i → h.Ns C m → St (i + 1) h → (∀ b o, b ∉ wr → h₂.get? b = some o → h.get? b = some o) → J i ys h →
      wpAny (MM w) A (letOwnedTupleGo target (.ref I) v) (fun _ s₃ => wpAny (MM w) A (assign target (compEnvC scope cl C env) v) (fun _ s₄ => wpAny (MM w) A (testsOf ifs (compEnvC scope cl C env)) (fun ok s₅ =>
        if ok = true then wpAny (MM w) A (eval elt (compEnvC scope cl C env)) (fun y s₆ => ∃ h₆ m₆ t₆, s₆ = ⟨h₆, g, dr, t₆, os⟩ ∧ Heap.ExtBut C h h₆ ∧ h₆.Ns C m₆ ∧ J (i + 1) (ys ++ [y]) h₆) (fun _ _ => False) s₅
        else ∃ h₅ m₅ t₅, s₅ = ⟨h₅, g, dr, t₅, os⟩ ∧ Heap.ExtBut C h h₅ ∧ h₅.Ns C m₅ ∧ J (i + 1) ys h₅) (fun _ _ => False) s₄) (fun _ _ => False) s₃) (fun _ _ => False) ⟨h, g, dr, t, os⟩)
    (fin : ∀ h t m ys, ys.length ≤ n → h.Ns C m → h.PlainList D ys.toArray → (∀ b o, b ∉ wr → h₂.get? b = some o → h.get? b = some o) → J n ys h → R (.ok .next) ⟨h, g, dr, t, os⟩) :
    ∀ (k i : Nat) (h : Heap) (t : Nat) (m : Str → Option Value) (ys : List Value), i + k = n → ys.length ≤ i → St i h → h.Ns C m → h.PlainList D ys.toArray → (∀ b o, b ∉ wr → h₂.get? b = some o → h.get? b = some o) → J i ys h →
      codeAny (MM w) A (.compLoop (.ListComp elt [⟨target, iter, ifs, 0⟩] scope pos) 0 (.ref I) (.ref D) (compEnvC scope cl C env)) R ⟨h, g, dr, t, os⟩ := by
  have cw : ∀ b ∈ wr, b ≠ C ∧ b ≠ D := fun b hb => ⟨Nat.ne_of_lt (Nat.lt_of_lt_of_le (hfp b (W.sub b hb)) hC), Nat.ne_of_lt (Nat.lt_of_lt_of_le (hfp b (W.sub b hb)) hD)⟩
  have cC : C ∉ wr := fun hb => (cw C hb).1 rfl
  have cD : D ∉ wr := fun hb => (cw D hb).2 rfl
  have fC : ∀ b ∈ fp, b ≠ C := fun b hb => Nat.ne_of_lt (Nat.lt_of_lt_of_le (hfp b hb) hC)
  have fD : ∀ b ∈ fp, b ≠ D := fun b hb => Nat.ne_of_lt (Nat.lt_of_lt_of_le (hfp b hb) hD)
  intro k
  induction k with
  | zero =>
    intro i h t m ys hi hl hst hns hpl hbs hj
    have : i = n := by omega
    subst this
    refine p_none (W.done ⟨h, g, dr, t, os⟩ _ _ hst fun h' tk hk => ⟨rfl, ?_⟩)
    refine fin h' tk m ys hl (hns.at' fun o e => hk C o cC e) (hpl.at fun o e => hk D o cD e) (fun b o hb e => hk b o hb (hbs b o hb e)) (hJ _ _ _ _ hj fun b o hb _ _ e => hk b o hb e)
  | succ k ih =>
    intro i h t m ys hi hl hst hns hpl hbs hj
    refine p_some (E' := fun _ _ => False) (W.item i ⟨h, g, dr, t, os⟩ _ _ (by omega) hst fun v h' tk hP hst' hk => ⟨v, rfl, ?_⟩) (fun _ _ e => e.elim)
    have hns' : h'.Ns C m := hns.at' fun o e => hk C o cC e
    have hpl' : h'.PlainList D ys.toArray := hpl.at fun o e => hk D o cD e
    have hbs' : ∀ b o, b ∉ wr → h₂.get? b = some o → h'.get? b = some o := fun b o hb e => hk b o hb (hbs b o hb e)
    have hj' := hJ _ _ _ h' hj fun b o hb _ _ e => hk b o hb e
    refine wpAny_mono (step i v h' tk m ys (by omega) hP hl hns' hst' hbs' hj') (fun _ s₃ q₃ => wpAny_mono q₃ (fun _ s₄ q₄ => wpAny_mono q₄ (fun ok s₅ q₅ => ?_) fun _ _ e => e.elim) fun _ _ e => e.elim) fun _ _ e => e.elim
    have old : ∀ b, b < h₂.objs.size → b ≠ C := fun b hb => Nat.ne_of_lt (Nat.lt_of_lt_of_le hb hC)
    cases ok with
    | false =>
      rw [if_neg (by decide)] at q₅ ⊢
      obtain ⟨h₅, m₅, t₅, rfl, x₅, n₅, j₅⟩ := q₅
      exact ih (i + 1) h₅ t₅ m₅ ys (by omega) (by omega) (W.frame _ _ _ hst' fun b hb o e => x₅ b o (fC b hb) e) n₅ (hpl'.at fun o e => x₅ D o (Ne.symm hCD) e)
        (fun b o hb e => x₅ b o (old b (Heap.lt_size e)) (hbs' b o hb e)) j₅
    | true =>
      rw [if_pos rfl] at q₅ ⊢
      refine wpAny_mono q₅ (fun y s₆ q₆ => ?_) fun _ _ e => e.elim
      obtain ⟨h₆, m₆, t₆, rfl, x₆, n₆, j₆⟩ := q₆
      have hpl₆ : h₆.PlainList D ys.toArray := hpl'.at fun o e => x₆ D o (Ne.symm hCD) e
      refine wpAny_list_append_plain (s := ⟨h₆, g, dr, t₆, os⟩) hpl₆ (fun h₇ p₇ s₇ => ?_) (by rw [List.size_toArray, sizeLine_eq]; omega)
      have e7 : ys.toArray.push y = (ys ++ [y]).toArray := by simp
      rw [e7] at p₇
      have keep7 : ∀ b o, b ≠ D → h₆.get? b = some o → h₇.get? b = some o := fun b o hb e => (s₇.2 b hb).trans e
      refine ih (i + 1) h₇ t₆ m₆ (ys ++ [y]) (by omega) (by rw [List.length_append, List.length_singleton]; omega) (W.frame _ _ _ hst' fun b hb o e => keep7 b o (fD b hb) (x₆ b o (fC b hb) e)) (n₆.at' fun o e => keep7 C o hCD e) p₇
        (fun b o hb e => keep7 b o (Nat.ne_of_lt (Nat.lt_of_lt_of_le (Heap.lt_size e) hD)) (x₆ b o (old b (Heap.lt_size e)) (hbs' b o hb e))) (hJ _ _ _ _ j₆ fun b o hb hc _ e => keep7 b o ?_ e)
      rintro rfl
      obtain ⟨k', hd⟩ := hpl₆
      have e' := Option.some.inj (hd.symm.trans e)
      rw [← e'] at hc
      injection hc with hc
      exact absurd hc (by decide)
/-- a list comprehension of one clause -/
theorem p_comp {elt target iter : PySem.Expr} {ifs : List PySem.Expr} {scope : Scope} {cl : List (Str × Addr)} {pos : Pos} {I : Addr} {fp wr : List Addr} {n : Nat} {P : Nat → Value → Prop} {St : Nat → Heap → Prop} {J : Nat → List Value → Heap → Prop} {RR : Value → Addr → Result → Shared → Prop}
    (W : Walks PR w A I fp wr n P St) (hn : n < 1000) (hst : St 0 h₂) (hfp : ∀ b ∈ fp, b < h₂.objs.size) (hcell : ∀ y ∈ scope.names, y.2 ≠ .cell) (hkind : scope.kind = .function)
    (hJ : ∀ i ys h h', J i ys h → (∀ b o, b ∉ wr → o.cls = .type "tuple" → (∃ vs k, o.data = .seq vs k) → h.get? b = some o → h'.get? b = some o) → J i ys h') (hJ0 : J 0 [] h₂)
    (step : ∀ C i v h t m ys, h₂.objs.size ≤ C → i < n → P i v → ys.length ≤ i → h.Ns C m → St (i + 1) h → (∀ b o, b ∉ wr → h₂.get? b = some o → h.get? b = some o) → J i ys h →
      wpAny (MM w) A (letOwnedTupleGo target (.ref I) v) (fun _ s₃ => wpAny (MM w) A (assign target (compEnvC scope cl C env) v) (fun _ s₄ => wpAny (MM w) A (testsOf ifs (compEnvC scope cl C env)) (fun ok s₅ =>
        if ok = true then wpAny (MM w) A (eval elt (compEnvC scope cl C env)) (fun y s₆ => ∃ h₆ m₆ t₆, s₆ = ⟨h₆, g, dr, t₆, os⟩ ∧ Heap.ExtBut C h h₆ ∧ h₆.Ns C m₆ ∧ J (i + 1) (ys ++ [y]) h₆) (fun _ _ => False) s₅
        else ∃ h₅ m₅ t₅, s₅ = ⟨h₅, g, dr, t₅, os⟩ ∧ Heap.ExtBut C h h₅ ∧ h₅.Ns C m₅ ∧ J (i + 1) ys h₅) (fun _ _ => False) s₄) (fun _ _ => False) s₃) (fun _ _ => False) ⟨h, g, dr, t, os⟩)
    (fin : ∀ C D h t m ys, h₂.objs.size ≤ C → h₂.objs.size ≤ D → C ≠ D → ys.length ≤ n → h.Ns C m → h.PlainList D ys.toArray → (∀ b o, b ∉ wr → h₂.get? b = some o → h.get? b = some o) → J n ys h → RR (.ref D) C (.ok .next) ⟨h, g, dr, t, os⟩) :
    wpAny (MM w) A (newList []) (fun acc s₃ => wpAny (MM w) A (newFunctionEnv scope env.globals cl [] env.qual none .none (some env)) (fun cenv s₄ =>
      codeAny (MM w) A (.compStart (.ListComp elt [⟨target, iter, ifs, 0⟩] scope pos) 0 (.ref I) acc { cenv with scope := relabel scope env }) (RR acc cenv.locals) s₄) E s₃) E ⟨h₂, g, dr, t₂, os⟩ := by
  refine wpAny_newObj_type (s := ⟨h₂, g, dr, t₂, os⟩) (wpAny_newFunctionEnv hcell (by intro y hy; simp at hy) (fun h₁ hns₁ hsb₁ => ?_) hkind)
  dsimp only at hns₁ hsb₁ ⊢
  generalize hH2 : h₂.push { cls := .type "list", dict := none, data := .seq ([] : List Value).toArray } = H2 at hns₁ hsb₁ ⊢
  have hC : H2.objs.size = h₂.objs.size + 1 := by rw [← hH2, Heap.size_push]
  have hCD : H2.objs.size ≠ h₂.objs.size := by rw [hC]; exact Nat.succ_ne_self _
  have old : ∀ b o, h₂.get? b = some o → h₁.get? b = some o := fun b o e => hsb₁.extBut b o (by rw [hC]; exact Nat.ne_of_lt (Nat.lt_succ_of_lt (Heap.lt_size e))) (Heap.get?_push_of_some _ (hH2 ▸ Heap.get?_push_of_some _ e))
  have hacc : h₁.PlainList h₂.objs.size ([] : List Value).toArray := ⟨_, hsb₁.extBut _ _ (Ne.symm hCD) (Heap.get?_push_of_some _ (hH2 ▸ Heap.get?_push_size _ rfl))⟩
  have hst₁ : St 0 h₁ := W.frame _ _ _ hst fun b _ o e => old b o e
  have hCle : h₂.objs.size ≤ H2.objs.size := by rw [hC]; exact Nat.le_succ _
  have loop : ∀ t, codeAny (MM w) A (.compLoop (.ListComp elt [⟨target, iter, ifs, 0⟩] scope pos) 0 (.ref I) (.ref h₂.objs.size) (compEnvC scope cl H2.objs.size env)) (RR (.ref h₂.objs.size) H2.objs.size) ⟨h₁, g, dr, t, os⟩ := fun t =>
    p_turns W hn hCle (Nat.le_refl _) hCD hfp hJ (fun i v h t m ys => step _ i v h t m ys hCle) (fun h t m ys a b c d e => fin _ _ h t m ys hCle (Nat.le_refl _) hCD a b c d e) n 0 h₁ t _ [] (by omega) (by simp) hst₁ hns₁ hacc (fun b o _ e => old b o e)
      (hJ _ _ _ _ hJ0 fun b o _ _ _ e => old b o e)
  exact codeAny_compStart_list (loop _) (W.self 0 _ _ _ hst₁ (loop _))
end
end
end Mine
namespace Mine
noncomputable section
/-- one turn of a comprehension, its end being b -/
noncomputable abbrev turnOf (ps : Pos) (target : PySem.Expr) (it : Value) (ifs : List PySem.Expr) (env : Env) (b : Sem Unit) (e : PySem.Expr) (d : Nat) (acc : Value) : Sem Fin := do
  standAt ps
  match ← pyNext it with
  | none => pure (.done .next)
  | some v =>
    letOwnedTupleGo target it v
    assign target env v
    let mut ok := true
    for c in ifs do
      if ok then ok ← isTrue c env (eval c env)
    if ok then b
    again (.compLoop e d it acc env)
/-- a turn of an outer clause -/
noncomputable abbrev turn2Of (ps : Pos) (target : PySem.Expr) (it : Value) (ifs : List PySem.Expr) (env : Env) (iter : PySem.Expr) (e : PySem.Expr) (d : Nat) (acc : Value) : Sem Fin := do
  standAt ps
  match ← pyNext it with
  | none => pure (.done .next)
  | some v =>
    letOwnedTupleGo target it v
    assign target env v
    let mut ok := true
    for c in ifs do
      if ok then ok ← isTrue c env (eval c env)
    if ok then
      let x ← eval iter env
      standAt iter.pos
      let x ← foldedSetIterable iter env x
      let _ ← runOwn (.compStart e (d + 1) (← holding [x] (pyIter x)) acc env) env
    again (.compLoop e d it acc env)
section
variable {w : World} {A : Around} {E : Value → Shared → Prop} {env : Env} {R : Result → Shared → Prop} {s : Shared} {e : PySem.Expr} {d : Nat} {it acc : Value} {ps : Pos} {target : PySem.Expr} {ifs : List PySem.Expr} {b : Sem Unit}
theorem t_none (hu : A.under (.compLoop e d it acc env) = A) (hq : (Code.compLoop e d it acc env).quiet = true) (hd : (MM w).den (.compLoop e d it acc env) = (compTurn e d it acc env).onRaise (fun x => do noteFrame x env; theTreesLotGoes x)) (he : compTurn e d it acc env = turnOf ps target it ifs env b e d acc)
    (h : wpAny (MM w) A (pyNext it) (fun r s₁ => r = none ∧ R (.ok .next) s₁) (notedBy (MM w) A env fun e s' => R (.error e) s') s) :
    codeAny (MM w) A (.compLoop e d it acc env) R s := by
  refine codeAny_of_tree ?_
  rw [hu, hd]
  refine wpAny_noted ?_
  rw [he]
  refine wpAny_bind (wpAny_standAt (wpAny_bind (wpAny_mono h (fun r s₁ h₁ => ?_) fun _ _ h' => h')))
  obtain ⟨rfl, h₁⟩ := h₁
  exact wpAny_pure h₁
theorem t_some {E' : Value → Shared → Prop} (hu : A.under (.compLoop e d it acc env) = A) (hq : (Code.compLoop e d it acc env).quiet = true) (hd : (MM w).den (.compLoop e d it acc env) = (compTurn e d it acc env).onRaise (fun x => do noteFrame x env; theTreesLotGoes x)) (he : compTurn e d it acc env = turnOf ps target it ifs env b e d acc)
    (h : wpAny (MM w) A (pyNext it) (fun r s₁ => ∃ v, r = some v ∧ wpAny (MM w) A (letOwnedTupleGo target it v) (fun _ s₂ => wpAny (MM w) A (assign target env v) (fun _ s₃ => wpAny (MM w) A (testsOf ifs env) (fun ok s₄ =>
      if ok = true then wpAny (MM w) A b (fun _ s₆ => codeAny (MM w) A (.compLoop e d it acc env) R s₆) E' s₄
      else codeAny (MM w) A (.compLoop e d it acc env) R s₄) E' s₃) E' s₂) E' s₁) E' s)
    (hE : ∀ e s, E' e s → notedBy (MM w) A env (fun e s' => R (.error e) s') e s) :
    codeAny (MM w) A (.compLoop e d it acc env) R s := by
  refine codeAny_of_tree ?_
  rw [hu, hd]
  refine wpAny_noted ?_
  rw [he]
  refine wpAny_bind (wpAny_standAt (wpAny_bind (wpAny_mono h (fun r s₁ h₁ => ?_) hE)))
  obtain ⟨v, rfl, h₁⟩ := h₁
  refine wpAny_bind (wpAny_mono h₁ (fun _ s₂ h₂ => wpAny_bind (wpAny_mono h₂ (fun _ s₃ h₃ => wpAny_bind (wpAny_mono h₃ (fun ok s₄ h₄ => ?_) hE)) hE)) hE)
  cases ok with
  | false => exact wpAny_pure ⟨hq, h₄⟩
  | true => exact wpAny_bind (wpAny_mono h₄ (fun _ s₆ h₆ => wpAny_pure ⟨hq, h₆⟩) hE)
theorem t_none2 {iter : PySem.Expr} (hu : A.under (.compLoop e d it acc env) = A) (hd : (MM w).den (.compLoop e d it acc env) = (compTurn e d it acc env).onRaise (fun x => do noteFrame x env; theTreesLotGoes x)) (he : compTurn e d it acc env = turn2Of ps target it ifs env iter e d acc)
    (h : wpAny (MM w) A (pyNext it) (fun r s₁ => r = none ∧ R (.ok .next) s₁) (notedBy (MM w) A env fun e s' => R (.error e) s') s) :
    codeAny (MM w) A (.compLoop e d it acc env) R s := by
  refine codeAny_of_tree ?_
  rw [hu, hd]
  refine wpAny_noted ?_
  rw [he]
  refine wpAny_bind (wpAny_standAt (wpAny_bind (wpAny_mono h (fun r s₁ h₁ => ?_) fun _ _ h' => h')))
  obtain ⟨rfl, h₁⟩ := h₁
  exact wpAny_pure h₁
theorem t_some2 {iter : PySem.Expr} {E' : Value → Shared → Prop} (hu : A.under (.compLoop e d it acc env) = A) (hq : (Code.compLoop e d it acc env).quiet = true) (hd : (MM w).den (.compLoop e d it acc env) = (compTurn e d it acc env).onRaise (fun x => do noteFrame x env; theTreesLotGoes x)) (he : compTurn e d it acc env = turn2Of ps target it ifs env iter e d acc)
    (hs : ∀ x, foldedSetIterable iter env x = pure x)
    (h : wpAny (MM w) A (pyNext it) (fun r s₁ => ∃ v, r = some v ∧ wpAny (MM w) A (letOwnedTupleGo target it v) (fun _ s₂ => wpAny (MM w) A (assign target env v) (fun _ s₃ => wpAny (MM w) A (testsOf ifs env) (fun ok s₄ =>
      if ok = true then wpAny (MM w) A (eval iter env) (fun x s₁ => wpAny (MM w) A (pyIter x) (fun it' s₂ => codeAny (MM w) A (.compStart e (d + 1) it' acc env) (fun r s₃ => (∃ f, r = .ok f) ∧ codeAny (MM w) A (.compLoop e d it acc env) R s₃) s₂) E' s₁) E' s₄
      else codeAny (MM w) A (.compLoop e d it acc env) R s₄) E' s₃) E' s₂) E' s₁) E' s)
    (hE : ∀ e s, E' e s → notedBy (MM w) A env (fun e s' => R (.error e) s') e s) :
    codeAny (MM w) A (.compLoop e d it acc env) R s := by
  refine codeAny_of_tree ?_
  rw [hu, hd]
  refine wpAny_noted ?_
  rw [he]
  refine wpAny_bind (wpAny_standAt (wpAny_bind (wpAny_mono h (fun r s₁ h₁ => ?_) hE)))
  obtain ⟨v, rfl, h₁⟩ := h₁
  refine wpAny_bind (wpAny_mono h₁ (fun _ s₂ h₂ => wpAny_bind (wpAny_mono h₂ (fun _ s₃ h₃ => wpAny_bind (wpAny_mono h₃ (fun ok s₄ h₄ => ?_) hE)) hE)) hE)
  cases ok with
  | false => exact wpAny_pure ⟨hq, h₄⟩
  | true =>
    refine wpAny_bind (wpAny_mono h₄ (fun x s₁ h₁ => wpAny_bind (wpAny_standAt (wpAny_bind (wpAny_of_eq (hs x) (wpAny_bind (wpAny_holding (wpAny_mono h₁ (fun it s₂ h₂ => ?_) hE))))))) hE)
    refine wpAny_bind (wpAny_runOwn (h := none) (codeAny_mono h₂ fun r s₃ q => ?_))
    obtain ⟨⟨f, rfl⟩, q⟩ := q
    exact wpAny_pure ⟨hq, q⟩
end
end
end Mine
namespace Mine
noncomputable section
noncomputable abbrev envC (o : Obj) (f L : Addr) : Env := callEnvC (fdOf o) L f
/-- None, True, False -/
noncomputable def bv : Option Bool → Value
  | none => .none
  | some b => .bool b
section
variable {w : World} {A : Around} {E : Value → Shared → Prop} {h₀ hb h : Heap} {L : Addr} {m : Str → Option Value} {g : Array GenState} {dr : Drawn} {t : Nat} {os : OsState} {env : Env} {s : Shared}
  {p : Ptr} {D O : List (Int × Value)} {S Gs N : Int → Bool}
theorem ne_bv {a b : Option Bool} {Q : Value → Shared → Prop} (h : Q (.bool (a != b)) s) : wpAny (MM w) A (compareOp .NotEq (bv a) (bv b)) Q E s := by
  cases a with
  | none => cases b with
    | none => exact EqNone.ne_none_none h
    | some b => exact EqNone.ne_none_bool h
  | some a => cases b with
    | none => exact EqNone.ne_bool_none h
    | some b =>
      refine ne_bool ?_
      cases a <;> cases b <;> exact h
theorem tests0 {Q : Bool → Shared → Prop} (h : Q true s) : wpAny (MM w) A (testsOf [] env) Q E s := by
  unfold testsOf; rw [List.forIn_nil]; exact wpAny_pure h
theorem tests1 {c : PySem.Expr} {Q : Bool → Shared → Prop} (h : wpAny (MM w) A (isTrue c env (eval c env)) Q E s) : wpAny (MM w) A (testsOf [c] env) Q E s := by
  unfold testsOf
  rw [List.forIn_cons]
  rw [if_pos rfl]
  refine wpAny_bind (wpAny_bind (wpAny_mono h (fun ok s' q => wpAny_pure ?_) fun _ _ e => e))
  dsimp only
  rw [List.forIn_nil]
  exact wpAny_pure q
/-- a call of a function with cells -/
theorem m_callC {f : Addr} {o : Obj} {args : List Value} {binds : List (Str × Value)} {Q : Value → Shared → Prop} (G : Good0 w h₀) (k : Keep h₀ h) (hroom : A.depth < recursionLimit) (fn : FnIs w f o)
    (bt : bindArgs (fdOf o) ⟨args, []⟩ = pure binds) (hclo : (fdOf o).closure = [])
    (hkind : ∀ x ∈ binds, (fdOf o).scope.names.lookup x.1 = some .local ∨ ((fdOf o).scope.names.lookup x.1 = some .cell ∧ ((cellsFrom (h.objs.size + 1) (fdOf o).scope.names []).lookup x.1).isSome = true))
    (body : ∀ h₁ t₁, Fm h₀ h.objs.size h h₁ (bindL (envC o f h.objs.size).kindOf binds fun _ => none) → (∀ n c, (envC o f h.objs.size).cells.lookup n = some c → h₁.IsCell c (bindC (envC o f h.objs.size).kindOf binds (fun _ => none) n)) →
      wpAny (MM w) (A.deeper (envC o f h.objs.size)) (execs (bdOf (fdOf o)) (envC o f h.objs.size)) (fun fl s' => Q (match fl with | .ret v => v | _ => .none) s')
        (fun e s' => wpAny (MM w) (A.deeper (envC o f h.objs.size)) (leaving (envC o f h.objs.size) e) (fun _ s'' => E e s'') E s') ⟨h₁, g, dr, t₁, os⟩) :
    wpAny (MM w) A (call (.ref f) args) Q E ⟨h, g, dr, t, os⟩ := by
  have G' := G.keep k
  refine wpAny_call (codeAny_call_cells (s := ⟨h, g, dr, t, os⟩) hroom (G'.X _ _ fn.at_) fn.data G'.lim (codeRec_of G'.X fn.code) fn.body bt hclo hkind (fun s₁ x => ?_) fn.co fn.gen fn.kind)
  obtain ⟨h₁, t₁, rfl⟩ := x.toInCall.same
  refine wpAny_mono (body h₁ t₁ ⟨x.toInCall.ns, fun b o _ e => x.toInCall.keep b o e, k.trans x.toInCall.keep, low_size k (Nat.le_refl _)⟩ x.cell) (fun fl s' q => ?_) fun e s' q => q
  cases fl <;> exact q
theorem n_cell {x : Str} {pos : Pos} {v : Value} {c : Addr} {Q : Value → Shared → Prop} (hc : s.heap.IsCell c (some v)) (k : Q v s) (hk : env.scope.kind = .function := by rfl) (hl : env.kindOf x = some .cell := by rfl)
    (hlc : env.cells.lookup x = some c := by rfl) (hd : (x == ("__debug__" : Str)) = false := by decide) : wpAny (MM w) A (eval (.Name x pos) env) Q E s := wpAny_Name (wpAny_loadName_cell hk hl hlc hc k) hd
/-- self.NAME where self is a cell -/
theorem n_attC {np pos : Pos} {name : Str} {v : Value} {c : Addr} {Q : Value → Shared → Prop} (G : Good0 w h₀) (k : Keep h₀ h) (hce : h.IsCell c (some (.ref p.x))) (X : AS w h₀ h p D O S Gs N) (hc : findIn (KK w) (.ref 170) name = some none)
    (kk : ∀ t', Q v ⟨h, g, dr, t', os⟩) (hv : atts p name = some v := by rfl) (hh : handedIn v = true := by rfl)
    (hk : env.scope.kind = .function := by rfl) (hl : env.kindOf "self" = some .cell := by rfl) (hlc : env.cells.lookup ("self" : Str) = some c := by rfl) :
    wpAny (MM w) A (eval (.Attribute (.Name "self" np) name pos) env) Q E ⟨h, g, dr, t, os⟩ :=
  Attribute_name (n_cell (s := ⟨h, g, dr, t, os⟩) hce (m_getattr (G.X.keeps k) X.inst X.att.ns hv hc hh kk) hk hl hlc)
end
section
variable {w : World} {A : Around} {E : Value → Shared → Prop} {h₀ h : Heap} {g : Array GenState} {dr : Drawn} {t : Nat} {os : OsState} {p : Ptr} {D O : List (Int × Value)} {S Gs N : Int → Bool}
  {e : PySem.Expr} {cenv : Env} {C : Addr} {m : Str → Option Value} {Dd I l : Addr} {R : Result → Shared → Prop}
noncomputable abbrev gcE (p1 p2 p3 p4 p5 p6 p7 p8 p9 p10 p11 p12 p13 p14 p15 p16 p17 : Pos) (k1 k2 : Nat) (it1 : PySem.Expr) (scope : Scope) (pos : Pos) : PySem.Expr :=
  .DictComp (.Name "key" p1) (.Tuple [.Name "old" p2, .Name "new" p3] k1 p4)
    [⟨.Tuple [.Name "key" p5, .Name "old" p6] k2 p7, it1, [], 0⟩,
     ⟨.Name "new" p8, .List [.Call (.Attribute (.Attribute (.Name "self" p9) "_data" p10) "get" p11) [.Name "key" p12] [] p13] p14, [.Compare (.Name "new" p15) [.NotEq] [.Name "old" p16] p17], 0⟩] scope pos
/-- the inner clause of get_changelog -/
theorem gc_in {p1 p2 p3 p4 p5 p6 p7 p8 p9 p10 p11 p12 p13 p14 p15 p16 p17 : Pos} {k1 k2 : Nat} {it1 : PySem.Expr} {scope : Scope} {pos : Pos} {key : Int} {tk : Tok} {nv ov : Option Bool} {lg : List (Int × Value)} (hh : A.handled = none)
    (hC : cenv.locals = C) (hkd : cenv.scope.kind = .function) (k_key : cenv.kindOf "key" = some .local) (k_old : cenv.kindOf "old" = some .local) (k_new : cenv.kindOf "new" = some .local)
    (hit : h.IsListIter I l 0) (hl : h.IsList l #[bv nv]) (ns : h.Ns C m) (hkey : m "key" = some (.int key tk)) (hold : m "old" = some (bv ov)) (dd : h.DictOf (IK w) Dd lg) (hz : lg.length < 1000)
    (hIC : I ≠ C) (hlC : l ≠ C) (hlI : l ≠ I) (hDC : Dd ≠ C) (hDI : Dd ≠ I) (hDl : Dd ≠ l)
    (kk : ∀ h' t' m', h'.Ns C m' → (∀ b o, b ≠ C → b ≠ I → b ≠ Dd → h.get? b = some o → h'.get? b = some o) →
      ((nv ≠ ov ∧ ∃ T, h'.get? T = some { cls := .type "tuple", data := .seq #[bv ov, bv nv] } ∧ h.get? T = none ∧ h'.DictOf (IK w) Dd (stored lg key (.ref T))) ∨ (nv = ov ∧ h'.DictOf (IK w) Dd lg)) → R (.ok .next) ⟨h', g, dr, t', os⟩) :
    codeAny (MM w) A (.compLoop (gcE p1 p2 p3 p4 p5 p6 p7 p8 p9 p10 p11 p12 p13 p14 p15 p16 p17 k1 k2 it1 scope pos) 1 (.ref I) (.ref Dd) cenv) R ⟨h, g, dr, t, os⟩ := by
  subst hC
  have hp : (cenv.scope.kind == .class || (cenv.scope.kind == .module && cenv.locals != cenv.globals)) = false := by rw [hkd]; rfl
  refine t_some (E' := fun _ _ => False) rfl rfl rfl (show compTurn _ 1 _ _ _ = turnOf p14 (.Name "new" p8) (.ref I) [.Compare (.Name "new" p15) [.NotEq] [.Name "old" p16] p17] cenv (do
      let kv ← eval (.Name "key" p1) cenv
      let vv ← holding [kv] (eval (.Tuple [.Name "old" p2, .Name "new" p3] k1 p4) cenv)
      standAt { p1 with endLine := p4.endLine, endCol := p4.endCol }
      holding [kv, vv] (dictSet Dd kv vv)) _ 1 (.ref Dd) from rfl) ?_ (fun _ _ e => e.elim)
  refine wpAny_pyNext_list_item (s := ⟨h, g, dr, t, os⟩) hit hl (x := bv nv) rfl fun h₁ hit₁ s₁ => ⟨_, rfl, ?_⟩
  refine wpAny_of_eq (rfl : letOwnedTupleGo (.Name "new" p8) (.ref I) (bv nv) = pure ()) ?_
  refine wpAny_assign_Name (wpAny_storeName_local k_new (ns.sameBut s₁ (Ne.symm hIC)) (fun h₂ n₂ s₂ => ?_) hp)
  have d₂ : h₂.DictOf (IK w) Dd lg := (dd.sameBut s₁ hDI).sameBut s₂ hDC
  have up₂ : ∀ b o, b ≠ cenv.locals → b ≠ I → h.get? b = some o → h₂.get? b = some o := fun b o b1 b2 e => s₂.extBut b o b1 (s₁.extBut b o b2 e)
  have hit₂ : h₂.IsListIter I l 1 := hit₁.extBut s₂.extBut hIC
  have hl₂ : h₂.IsList l #[bv nv] := (hl.extBut s₁.extBut hlI).extBut s₂.extBut hlC
  have nm : ∀ {x : Str} {v : Value} {pos : Pos} {Q : Value → Shared → Prop} {E} {h' : Heap} {t' : Nat}, (if x = "new" then some (bv nv) else m x) = some v → cenv.kindOf x = some .local → (x == ("__debug__" : Str)) = false → (∀ o, h₂.get? cenv.locals = some o → h'.get? cenv.locals = some o) → Q v ⟨h', g, dr, t', os⟩ →
      wpAny (MM w) A (eval (.Name x pos) cenv) Q E ⟨h', g, dr, t', os⟩ := fun a b c d e => wpAny_Name (wpAny_loadName_local hkd b (n₂.at' d) a e) c
  refine tests1 (wpAny_isTrue_Compare1 (nm (v := bv nv) rfl k_new (by decide) (fun _ e => e) (nm (v := bv ov) hold k_old (by decide) (fun _ e => e) (ne_bv (wpAny_truthy_bool ?_)))))
  have endT : ∀ h₃ t₃ m₃, h₃.Ns cenv.locals m₃ → h₃.IsListIter I l 1 → h₃.IsList l #[bv nv] → (∀ b o, b ≠ cenv.locals → b ≠ I → b ≠ Dd → h.get? b = some o → h₃.get? b = some o) →
      ((nv ≠ ov ∧ ∃ T, h₃.get? T = some { cls := .type "tuple", data := .seq #[bv ov, bv nv] } ∧ T ≠ I ∧ h.get? T = none ∧ h₃.DictOf (IK w) Dd (stored lg key (.ref T))) ∨ (nv = ov ∧ h₃.DictOf (IK w) Dd lg)) →
      codeAny (MM w) A (.compLoop (gcE p1 p2 p3 p4 p5 p6 p7 p8 p9 p10 p11 p12 p13 p14 p15 p16 p17 k1 k2 it1 scope pos) 1 (.ref I) (.ref Dd) cenv) R ⟨h₃, g, dr, t₃, os⟩ := by
    intro h₃ t₃ m₃ n₃ i₃ l₃ u₃ c₃
    refine t_none (ps := p14) (target := .Name "new" p8) (ifs := [.Compare (.Name "new" p15) [.NotEq] [.Name "old" p16] p17]) (b := (do
      let kv ← eval (.Name "key" p1) cenv
      let vv ← holding [kv] (eval (.Tuple [.Name "old" p2, .Name "new" p3] k1 p4) cenv)
      standAt { p1 with endLine := p4.endLine, endCol := p4.endCol }
      holding [kv, vv] (dictSet Dd kv vv))) rfl rfl rfl rfl ?_
    refine wpAny_pyNext_list_end (s := ⟨h₃, g, dr, t₃, os⟩) hh i₃ l₃ rfl fun h₄ x₄ => ⟨rfl, kk h₄ t₃ m₃ (n₃.at' fun o e => x₄ _ o (Ne.symm hIC) e) (fun b o b1 b2 b3 e => x₄ b o b2 (u₃ b o b1 b2 b3 e)) ?_⟩
    rcases c₃ with ⟨c1, T, c2, c3, c4, c5⟩ | ⟨c1, c2⟩
    · exact .inl ⟨c1, T, x₄ _ _ c3 c2, c4, DictOf_at c5 fun o e => x₄ _ o hDI e⟩
    · exact .inr ⟨c1, DictOf_at c2 fun o e => x₄ _ o hDI e⟩
  by_cases hne : nv = ov
  · rw [show (nv != ov) = false by rw [hne]; exact bne_self_eq_false _, if_neg (by decide)]
    exact endT h₂ _ _ n₂ hit₂ hl₂ (fun b o b1 b2 _ e => up₂ b o b1 b2 e) (.inr ⟨hne, d₂⟩)
  · rw [show (nv != ov) = true from bne_iff_ne.mpr hne, if_pos rfl]
    refine wpAny_bind (nm (v := .int key tk) hkey k_key (by decide) (fun _ e => e) (wpAny_bind (wpAny_holding ?_)))
    refine wpAny_Tuple (args_cons (nm (v := bv ov) hold k_old (by decide) (fun _ e => e) (args_cons (nm (v := bv nv) rfl k_new (by decide) (fun _ e => e) (args_nil ⟨by rw [sizeLine_eq]; show 2 ≤ _; decide, ?_⟩)) rfl)) rfl)
    refine wpAny_bind (wpAny_standAt (wpAny_holding ?_))
    have pu : ∀ b o, h₂.get? b = some o → (h₂.push { cls := .type "tuple", data := .seq #[bv ov, bv nv] }).get? b = some o := fun b o e => Heap.get?_push_of_some _ e
    refine wpAny_dictSet_pairs (knd := IK w) (hsz := by rw [sizeLine_eq]; omega) (intKind_is PR w key tk) (DictOf_at d₂ fun o e => pu _ o e) fun h₃ d₃ s₃ => ?_
    have sz : ∀ b o, h₂.get? b = some o → b ≠ h₂.objs.size := fun b o e => Nat.ne_of_lt (Heap.lt_size e)
    obtain ⟨oD, _, _, hoD, _⟩ := id d₂
    obtain ⟨oI, hoI, _⟩ := id hit₂
    refine endT h₃ _ _ (n₂.at' fun o e => s₃.extBut _ o (Ne.symm hDC) (pu _ o e)) ((hit₂.at fun o e => pu _ o e).extBut s₃.extBut (Ne.symm hDI)) ((hl₂.at fun o e => pu _ o e).extBut s₃.extBut (Ne.symm hDl))
      (fun b o b1 b2 b3 e => s₃.extBut b o b3 (pu b o (up₂ b o b1 b2 e))) (.inl ⟨hne, h₂.objs.size, s₃.extBut _ _ (Ne.symm (sz _ _ hoD)) (Heap.get?_push_size _ rfl), Ne.symm (sz _ _ hoI), ?_, d₃⟩)
    exact low_size (Keep.refl h) (Nat.le_of_eq (s₁.1.symm.trans s₂.1.symm))
end
end
end Mine
namespace Mine
noncomputable section
section
variable {w : World} {A : Around} {R : Result → Shared → Prop} {s : Shared} {it acc : Value} {env : Env}
theorem t_startD1 {kx vx t1 i1 t2 i2 : PySem.Expr} {f1 f2 : List PySem.Expr} {scope : Scope} {pos : Pos}
    (h0 : codeAny (MM w) A (.compLoop (.DictComp kx vx [⟨t1, i1, f1, 0⟩, ⟨t2, i2, f2, 0⟩] scope pos) 1 it acc env) R s)
    (h : ∀ (Q : Value → Shared → Prop) E, Q it s → wpAny (MM w) A (pyIter it) Q E s) :
    codeAny (MM w) A (.compStart (.DictComp kx vx [⟨t1, i1, f1, 0⟩, ⟨t2, i2, f2, 0⟩] scope pos) 1 it acc env) R s := by
  refine codeAny_of_tree ?_
  show wpAny _ A ((compStart (.DictComp kx vx [⟨t1, i1, f1, 0⟩, ⟨t2, i2, f2, 0⟩] scope pos) 1 it acc env).onRaise (fun x => do noteFrame x env; standAt theWindowsPlace)) _ _ s
  refine wpAny_notedAt ?_
  unfold compStart
  show wpAny _ A (ask >>= _) _ _ s
  refine wpAny_bind (wpAny_askSetting (wpAny_ite ?_))
  split
  · first
      | exact wpAny_bind (wpAny_pure (wpAny_pure (And.intro rfl h0)))
      | exact wpAny_pure (And.intro rfl h0)
  · refine wpAny_bind (wpAny_rule ?_)
    first
      | exact (wpAny_bind (wpAny_standAt (wpAny_bind (h _ _ (wpAny_pure (And.intro rfl h0))))))
      | (show wpAny _ _ (standAt i2.pos >>= _) _ _ s; exact wpAny_bind (wpAny_standAt (wpAny_bind (h _ _ (wpAny_pure (And.intro rfl h0))))))
theorem t_startD0 {kx vx t1 i1 t2 i2 : PySem.Expr} {f1 f2 : List PySem.Expr} {scope : Scope} {pos : Pos}
    (h0 : codeAny (MM w) A (.compLoop (.DictComp kx vx [⟨t1, i1, f1, 0⟩, ⟨t2, i2, f2, 0⟩] scope pos) 0 it acc env) R s)
    (h : ∀ (Q : Value → Shared → Prop) E, Q it s → wpAny (MM w) A (pyIter it) Q E s) :
    codeAny (MM w) A (.compStart (.DictComp kx vx [⟨t1, i1, f1, 0⟩, ⟨t2, i2, f2, 0⟩] scope pos) 0 it acc env) R s := codeAny_compStart_dict h0 (h _ _ h0)
end
theorem ne_cls {h : Heap} {a b : Addr} {o o' : Obj} {x y : String} (e : h.get? a = some o) (e' : h.get? b = some o') (c : o.cls = .type x) (c' : o'.cls = .type y) (n : x ≠ y) : a ≠ b := by
  rintro rfl
  have q := Option.some.inj (e.symm.trans e')
  rw [q, c'] at c
  injection c with c
  exact n c.symm
noncomputable abbrev tup2 (a b : Value) : Obj := { cls := .type "tuple", data := .seq #[a, b] }
/-- a log's pairs and what they hold -/
noncomputable def LogP (h : Heap) (kvs : List (Int × Value)) (L : List (Int × Option Bool × Option Bool)) : Prop :=
  kvs.map (·.1) = L.map (·.1) ∧ ∀ (i : Nat) (x : Int × Value) (y : Int × Option Bool × Option Bool), kvs[i]? = some x → L[i]? = some y → ∃ T : Addr, x.2 = .ref T ∧ h.get? T = some (tup2 (bv y.2.1) (bv y.2.2))
theorem LogP.nil (h : Heap) : LogP h [] [] := ⟨rfl, fun i x y e => by simp at e⟩
theorem LogP.len {h : Heap} {kvs : List (Int × Value)} {L : List (Int × Option Bool × Option Bool)} (p : LogP h kvs L) : kvs.length = L.length := by
  have := congrArg List.length p.1
  rwa [List.length_map, List.length_map] at this
theorem LogP.snoc {h : Heap} {kvs : List (Int × Value)} {L : List (Int × Option Bool × Option Bool)} {k : Int} {a b : Option Bool} {T : Addr} (p : LogP h kvs L) (hT : h.get? T = some (tup2 (bv a) (bv b))) : LogP h (kvs ++ [(k, .ref T)]) (L ++ [(k, a, b)]) := by
  have hl := p.len
  refine ⟨by rw [List.map_append, List.map_append, p.1]; rfl, fun i x y ex ey => ?_⟩
  rcases Nat.lt_trichotomy i kvs.length with q | q | q
  · exact p.2 i x y (by rwa [List.getElem?_append_left q] at ex) (by rwa [List.getElem?_append_left (hl ▸ q)] at ey)
  · rw [q, List.getElem?_append_right (Nat.le_refl _), Nat.sub_self] at ex
    rw [q, hl, List.getElem?_append_right (Nat.le_refl _), Nat.sub_self] at ey
    cases ex; cases ey
    exact ⟨T, rfl, hT⟩
  · rw [List.getElem?_eq_none (by rw [List.length_append, List.length_singleton]; omega)] at ex; cases ex
theorem LogP.at {h h' : Heap} {kvs : List (Int × Value)} {L : List (Int × Option Bool × Option Bool)} (p : LogP h kvs L) (k : ∀ b u v, h.get? b = some (tup2 u v) → h'.get? b = some (tup2 u v)) : LogP h' kvs L :=
  ⟨p.1, fun i x y ex ey => let ⟨T, e, q⟩ := p.2 i x y ex ey; ⟨T, e, k _ _ _ q⟩⟩
/-- the dict at d is the log L -/
noncomputable def LogAt (w : World) (h : Heap) (d : Addr) (L : List (Int × Option Bool × Option Bool)) : Prop := ∃ kvs, h.DictOf (IK w) d kvs ∧ LogP h kvs L
/-- what the log says -/
noncomputable def lgOf (dv : Int → Option Bool) (O : List (Int × Option Bool)) : List (Int × Option Bool × Option Bool) := (O.filter fun x => dv x.1 != x.2).map fun x => (x.1, x.2, dv x.1)
noncomputable abbrev bvs (O : List (Int × Option Bool)) : List (Int × Value) := O.map fun x => (x.1, bv x.2)
theorem stored_new {kvs : List (Int × Value)} {k : Int} {v : Value} (h : k ∉ kvs.map (·.1)) : stored kvs k v = kvs ++ [(k, v)] := by
  unfold stored
  rw [if_neg]
  intro e
  rw [List.any_eq_true] at e
  obtain ⟨x, hx, he⟩ := e
  exact h (List.mem_map.mpr ⟨x, hx, by simpa using he⟩)
theorem lgOf_snoc (dv : Int → Option Bool) (O : List (Int × Option Bool)) (x : Int × Option Bool) : lgOf dv (O ++ [x]) = lgOf dv O ++ (if dv x.1 != x.2 then [(x.1, x.2, dv x.1)] else []) := by
  unfold lgOf
  rw [List.filter_append, List.map_append]
  congr 1
  by_cases e : (dv x.1 != x.2) = true
  · simp [e]
  · simp [e]
theorem lgOf_keys (dv : Int → Option Bool) (O : List (Int × Option Bool)) {k : Int} (h : k ∈ (lgOf dv O).map (·.1)) : k ∈ O.map (·.1) := by
  unfold lgOf at h
  simp only [List.map_map, List.mem_map, List.mem_filter, Function.comp] at h
  obtain ⟨x, ⟨hx, _⟩, rfl⟩ := h
  exact List.mem_map.mpr ⟨x, hx, rfl⟩
section
variable {w : World} {A : Around} {h₀ h : Heap} {g : Array GenState} {dr : Drawn} {t : Nat} {os : OsState} {p : Ptr} {D : List (Int × Value)} {S Gs N : Int → Bool}
  {cenv : Env} {C c : Addr} {Dd I : Addr} {R : Result → Shared → Prop}
/-- the rounds of get_changelog's comprehension -/
theorem gc_out {p1 p2 p3 p4 p5 p6 p7 p8 p9 p10 p11 p12 p13 p14 p15 p16 p17 : Pos} {k1 k2 : Nat} {it1 : PySem.Expr} {scope : Scope} {pos : Pos} {Ol : List (Int × Option Bool)} {dv : Int → Option Bool} {hr : Heap} {ep : Nat} (hh : A.handled = none)
    (hcall : eval (.Call (.Attribute (.Attribute (.Name "self" p9) "_data" p10) "get" p11) [.Name "key" p12] [] p13) cenv = (do
      let ov ← eval (.Attribute (.Name "self" p9) "_data" p10) cenv
      standAt p11.atName
      let (f, first) ← holding [ov] (getMethod ov "get" (do return ((← importBound (.Attribute (.Name "self" p9) "_data" p10) cenv).getD true)))
      callWith p13 f first (backTo p13 (starEach [.Name "key" p12] cenv)) []))
    (G : Good0 w h₀) (hC : cenv.locals = C) (hkd : cenv.scope.kind = .function) (k_key : cenv.kindOf "key" = some .local) (k_old : cenv.kindOf "old" = some .local) (k_new : cenv.kindOf "new" = some .local) (k_self : cenv.kindOf "self" = some .cell) (hcl : cenv.cells.lookup ("self" : Str) = some c)
    (X : AS w h₀ hr p D (bvs Ol) S Gs N) (kr : Keep h₀ hr) (hce : hr.IsCell c (some (.ref p.x))) (hdv : ∀ x ∈ Ol, (valueAt D x.1).getD .none = bv (dv x.1)) (hz : Ol.length < 900) (hda : hr.DictAt (IK w) p.orig (bvs Ol) ep)
    (hC' : hr.objs.size ≤ C) (hI' : hr.objs.size ≤ I) (hD' : hr.objs.size ≤ Dd) (hIC : I ≠ C) (hDC : Dd ≠ C) (hDI : Dd ≠ I)
    (kk : ∀ h' t' m', h'.Ns C m' → (∀ b o, b ≠ C → b ≠ I → b ≠ Dd → hr.get? b = some o → h'.get? b = some o) → LogAt w h' Dd (lgOf dv Ol) → R (.ok .next) ⟨h', g, dr, t', os⟩) :
    ∀ (n i : Nat) (h : Heap) (t : Nat) (m : Str → Option Value) (ok ov : Value), i + n = Ol.length → IsItemIter h I p.orig i (bvs Ol).length ep ok ov → h.Ns C m → LogAt w h Dd (lgOf dv (Ol.take i)) →
      (∀ b o, b ≠ C → b ≠ I → b ≠ Dd → hr.get? b = some o → h.get? b = some o) →
      codeAny (MM w) A (.compLoop (gcE p1 p2 p3 p4 p5 p6 p7 p8 p9 p10 p11 p12 p13 p14 p15 p16 p17 k1 k2 it1 scope pos) 0 (.ref I) (.ref Dd) cenv) R ⟨h, g, dr, t, os⟩ := by
  subst hC
  have hp : (cenv.scope.kind == .class || (cenv.scope.kind == .module && cenv.locals != cenv.globals)) = false := by rw [hkd]; rfl
  have ltne : ∀ b o, hr.get? b = some o → b ≠ cenv.locals ∧ b ≠ I ∧ b ≠ Dd := fun b o e =>
    ⟨Nat.ne_of_lt (Nat.lt_of_lt_of_le (Heap.lt_size e) hC'), Nat.ne_of_lt (Nat.lt_of_lt_of_le (Heap.lt_size e) hI'), Nat.ne_of_lt (Nat.lt_of_lt_of_le (Heap.lt_size e) hD')⟩
  intro n
  induction n with
  | zero =>
    intro i h t m ok ov hi hit ns lg up
    have hi' : i = Ol.length := by omega
    subst hi'
    rw [List.take_length] at lg
    have up' : Keep hr h := fun b o e => up b o (ltne b o e).1 (ltne b o e).2.1 (ltne b o e).2.2 e
    refine t_none2 (ps := it1.pos) (target := .Tuple [.Name "key" p5, .Name "old" p6] k2 p7) (ifs := []) (iter := .List [.Call (.Attribute (.Attribute (.Name "self" p9) "_data" p10) "get" p11) [.Name "key" p12] [] p13] p14) rfl rfl rfl ?_
    refine wpAny_pyNext_items_end (knd := IK w) (s := ⟨h, g, dr, t, os⟩) hh hit (hda.at fun o e => up' _ o e) (by simp) fun h₁ x₁ => ⟨rfl, kk h₁ t m (ns.at' fun o e => x₁ _ o (Ne.symm hIC) e) (fun b o b1 b2 b3 e => x₁ b o b2 (up b o b1 b2 b3 e)) ?_⟩
    obtain ⟨kvs, d, lp⟩ := lg
    refine ⟨kvs, DictOf_at d fun o e => x₁ _ o hDI e, lp.at fun b u v e => x₁ _ _ ?_ e⟩
    exact ne_cls e hit rfl rfl (by decide)
  | succ n ih =>
    intro i h t m ok ov hi hit ns lg up
    have up' : Keep hr h := fun b o e => up b o (ltne b o e).1 (ltne b o e).2.1 (ltne b o e).2.2 e
    have hlt : i < Ol.length := by omega
    obtain ⟨x, hx⟩ : ∃ x, Ol[i]? = some x := ⟨_, List.getElem?_eq_getElem hlt⟩
    have hx' : (bvs Ol)[i]? = some (x.1, bv x.2) := by rw [List.getElem?_map, hx]; rfl
    have htk : Ol.take (i + 1) = Ol.take i ++ [x] := by rw [List.take_add_one, hx]; rfl
    have hnd := X.orig
    obtain ⟨_, _, _, _, _, _, _, _, hnd⟩ := hnd
    have hnd' : (Ol.map (·.1)).Nodup := by simpa [bvs, List.map_map, Function.comp_def] using hnd
    obtain ⟨kvs, d, lp⟩ := lg
    have hnew : x.1 ∉ kvs.map (·.1) := by
      rw [lp.1]
      intro q
      have q' := lgOf_keys _ _ q
      have : (Ol.take (i + 1)).map (·.1) |>.Nodup := (hnd'.sublist ((List.take_sublist _ _).map _))
      rw [htk, List.map_append] at this
      exact (List.nodup_append.mp this).2.2 _ q' _ (by simp) rfl
    have hkl : kvs.length ≤ i := by
      rw [lp.len]; unfold lgOf; rw [List.length_map]
      exact Nat.le_trans (List.length_filter_le _ _) (List.length_take_le _ _)
    refine t_some2 (E' := fun _ _ => False) (ps := it1.pos) (target := .Tuple [.Name "key" p5, .Name "old" p6] k2 p7) (ifs := []) (iter := .List [.Call (.Attribute (.Attribute (.Name "self" p9) "_data" p10) "get" p11) [.Name "key" p12] [] p13] p14) rfl rfl rfl rfl (fun _ => rfl) ?_ (fun _ _ e => e.elim)
    have hIh : I < h.objs.size := Heap.lt_size hit
    have hCh : cenv.locals < h.objs.size := ns.lt
    have hDh : Dd < h.objs.size := let ⟨_, _, _, ho, _⟩ := d; Heap.lt_size ho
    refine wpAny_pyNext_items_item (knd := IK w) (s := ⟨h, g, dr, t, os⟩) hit (hda.at fun o e => up' _ o e) hx' fun key h₁ hkey heo ht₁ hz₁ k₁ => ⟨_, rfl, ?_⟩
    obtain ⟨tk, rfl⟩ := Value.isInt_shape hkey
    refine wpAny_letOwnedTupleGo_items (s := ⟨h₁, g, dr, t, os⟩) heo fun h₂ he₂ s₂ => ?_
    replace s₂ : Heap.SameBut I h₁ h₂ := s₂
    have ht₂ : h₂.IsTuple h.objs.size #[.int x.1 tk, bv x.2] := ⟨_, (s₂.2 _ (Nat.ne_of_gt hIh)).trans ht₁, rfl, _, rfl⟩
    have hz₂ : h₂.objs.size = h.objs.size + 1 := s₂.1.trans hz₁
    refine wpAny_assign_Tuple hh ht₂ rfl rfl fun h₃ x₃ => ?_
    replace x₃ : Heap.ExtBut h₂.objs.size h₂ h₃ := x₃
    have up₃ : ∀ b o, b ≠ I → h.get? b = some o → h₃.get? b = some o := fun b o hb e => x₃ b o (by rw [hz₂]; exact Nat.ne_of_lt (Nat.lt_succ_of_lt (Heap.lt_size e))) (s₂.extBut b o hb (k₁ b o hb e))
    have hit₃ : IsItemIter h₃ I p.orig (i + 1) (bvs Ol).length ep (.int x.1 tk) (bv x.2) := x₃ _ _ (by rw [hz₂]; exact Nat.ne_of_lt (Nat.lt_succ_of_lt hIh)) he₂
    have ns₃ : h₃.Ns cenv.locals m := ns.at' fun o e => up₃ _ o (Ne.symm hIC) e
    show wpAny _ _ (do holding [bv x.2] (assign (.Name "key" p5) cenv (.int x.1 tk)); do holding [] (assign (.Name "old" p6) cenv (bv x.2)); pure ()) _ _ _
    refine wpAny_bind (wpAny_holding (wpAny_assign_Name (wpAny_storeName_local k_key ns₃ (fun h₄ n₄ s₄ => ?_) hp)))
    replace s₄ : Heap.SameBut cenv.locals h₃ h₄ := s₄
    refine wpAny_bind (wpAny_holding (wpAny_assign_Name (wpAny_storeName_local k_old n₄ (fun h₅ n₅ s₅ => wpAny_pure ?_) hp)))
    replace s₅ : Heap.SameBut cenv.locals h₄ h₅ := s₅
    have up₅ : ∀ b o, b ≠ cenv.locals → b ≠ I → h.get? b = some o → h₅.get? b = some o := fun b o b1 b2 e => s₅.extBut b o b1 (s₄.extBut b o b1 (up₃ b o b2 e))
    have hit₅ : IsItemIter h₅ I p.orig (i + 1) (bvs Ol).length ep (.int x.1 tk) (bv x.2) := s₅.extBut _ _ hIC (s₄.extBut _ _ hIC hit₃)
    have k₅ : Keep hr h₅ := fun b o e => up₅ b o (ltne b o e).1 (ltne b o e).2.1 (up' b o e)
    have X₅ := X.keep k₅
    have d₅ : h₅.DictOf (IK w) Dd kvs := DictOf_at d fun o e => up₅ _ o hDC hDI e
    have lp₅ : LogP h₅ kvs (lgOf dv (Ol.take i)) := lp.at fun b u v e => up₅ b _ (by rintro rfl; obtain ⟨_, _, _, ho, hd, _⟩ := ns; rw [ho] at e; cases e; cases hd) (ne_cls e hit rfl rfl (by decide)) e
    refine tests0 ?_
    rw [if_pos rfl]
    refine wpAny_List (args_cons (n_bm1 F.plainAttrs_dict F.slot_dict_get F.type_dict_get (n_attC G (kr.trans k₅) (hce.keeps k₅) X₅ (a_data w) (fun t' => ⟨_, rfl, DictOf_ob X₅.data,
      wpAny_Name (wpAny_loadName_local hkd k_key n₅ rfl (n_get1 (tk := tk) (k := x.1) X₅.data (X.sys _ (by simp)) fun t'' => args_nil ⟨by rw [sizeLine_eq]; show 1 ≤ _; decide, ?_⟩)) (by decide)⟩) rfl rfl hkd k_self hcl) hcall rfl) rfl)
    rw [hdv x (List.mem_of_getElem? hx)]
    generalize hH : h₅.push { cls := .type "list", data := .seq [bv (dv x.1)].toArray } = h₆
    have k₆ : Keep h₅ h₆ := fun b o e => hH ▸ Heap.get?_push_of_some _ e
    have z₆ : h₆.objs.size = h₅.objs.size + 1 := by rw [← hH, Heap.size_push]
    have l₆ : h₆.IsList h₅.objs.size #[bv (dv x.1)] := ⟨_, hH ▸ Heap.get?_push_size _ rfl, rfl, _, rfl⟩
    refine wpAny_pyIter_list (s := ⟨h₆, g, dr, _, os⟩) l₆ ?_
    generalize hH7 : h₆.push { cls := .type "list_iterator", data := .fields #[.ref h₅.objs.size, .int 0 0] } = h₇
    have k₇ : Keep h₆ h₇ := fun b o e => hH7 ▸ Heap.get?_push_of_some _ e
    have it₇ : h₇.IsListIter h₆.objs.size h₅.objs.size 0 := ⟨_, hH7 ▸ Heap.get?_push_size _ rfl, rfl, rfl⟩
    have sz5 : ∀ {b}, b < h.objs.size → b < h₅.objs.size := fun {b} q => by
      have : h₅.objs.size = h₃.objs.size := s₅.1.trans s₄.1
      have : h₂.objs.size ≤ h₃.objs.size ∨ True := .inr trivial
      exact Nat.lt_of_lt_of_le q (by
        obtain ⟨_, ho, _⟩ := ht₂
        exact Nat.le_of_lt (Heap.lt_size (s₅.extBut _ _ (Nat.ne_of_gt hCh) (s₄.extBut _ _ (Nat.ne_of_gt hCh) (x₃ _ _ (by rw [hz₂]; exact Nat.ne_of_lt (Nat.lt_succ_self _)) ho)))))
    have ne1 : ∀ {b}, b < h.objs.size → b ≠ h₅.objs.size := fun q => Nat.ne_of_lt (sz5 q)
    have ne2 : ∀ {b}, b < h.objs.size → b ≠ h₆.objs.size := fun q => by rw [z₆]; exact Nat.ne_of_lt (Nat.lt_succ_of_lt (sz5 q))
    refine t_startD1 ?_ (fun Q E q => wpAny_pyIter_listiter it₇ q)
    refine gc_in (C := cenv.locals) (key := x.1) (tk := tk) (nv := dv x.1) (ov := x.2) (lg := kvs) hh rfl hkd k_key k_old k_new it₇ (l₆.at fun o e => k₇ _ o e) (n₅.keeps (k₆.trans k₇)) rfl rfl (DictOf_at d₅ fun o e => k₇ _ o (k₆ _ o e)) (by omega)
      (Ne.symm (ne2 hCh)) (Ne.symm (ne1 hCh)) (by rw [z₆]; exact Nat.ne_of_lt (Nat.lt_succ_self _)) hDC (ne2 hDh) (ne1 hDh) ?_
    intro h₈ t₈ m₈ n₈ u₈ c₈
    refine ⟨⟨_, rfl⟩, ?_⟩
    have keepI : ∀ b o, b ≠ cenv.locals → b ≠ Dd → b < h.objs.size → h₅.get? b = some o → h₈.get? b = some o := fun b o b1 b2 q e => u₈ b o b1 (ne2 q) b2 (k₇ b o (k₆ b o e))
    refine ih (i + 1) h₈ t₈ m₈ (.int x.1 tk) (bv x.2) (by omega) (keepI _ _ hIC (Ne.symm hDI) hIh hit₅) n₈ ?_ (fun b o b1 b2 b3 e => keepI b o b1 b3 (Heap.lt_size (up' b o e)) (k₅ b o e))
    rw [htk, lgOf_snoc]
    have lp₈ : LogP h₈ kvs (lgOf dv (Ol.take i)) := by
      refine ⟨lp.1, fun j y z ey ez => ?_⟩
      obtain ⟨T, e1, e2⟩ := lp.2 j y z ey ez
      refine ⟨T, e1, keepI T _ ?_ ?_ (Heap.lt_size e2) (up₅ T _ ?_ ?_ e2)⟩
      · rintro rfl; obtain ⟨_, _, _, ho, hd, _⟩ := ns; rw [ho] at e2; cases e2; cases hd
      · obtain ⟨_, _, _, ho, hd, _⟩ := d; exact ne_cls e2 ho rfl hd.1 (by decide)
      · rintro rfl; obtain ⟨_, _, _, ho, hd, _⟩ := ns; rw [ho] at e2; cases e2; cases hd
      · exact ne_cls e2 hit rfl rfl (by decide)
    rcases c₈ with ⟨q, T, hT, _, d₈⟩ | ⟨q, d₈⟩
    · rw [if_pos (bne_iff_ne.mpr q)]
      rw [stored_new hnew] at d₈
      exact ⟨_, d₈, lp₈.snoc hT⟩
    · rw [if_neg (by rw [q]; simp), List.append_nil]
      exact ⟨_, d₈, lp₈⟩
end
end
end Mine
namespace Mine
noncomputable section
noncomputable def gcScope (w : World) : Scope := match bdOf (fdOf (ob115 w).1) with | (.If _ [.Assign _ (.DictComp _ _ _ sc _) _] _ _) :: _ => sc | _ => default
theorem DictOf_ep {w : World} {h : Heap} {a : Addr} {kvs : List (Int × Value)} (x : h.DictOf (IK w) a kvs) : ∃ ep, h.DictAt (IK w) a kvs ep :=
  let ⟨o, es, ep, ho, r⟩ := x; ⟨ep, o, es, ho, r⟩
section
variable {w : World} {A : Around} {E : Value → Shared → Prop} {h₀ h : Heap} {g : Array GenState} {dr : Drawn} {t : Nat} {os : OsState} {p : Ptr} {D O : List (Int × Value)} {S Gs N : Int → Bool} {Q : Value → Shared → Prop}
theorem n_items {a : Addr} {kvs : List (Int × Value)} (hd : h.DictOf (IK w) a kvs) (hs : (a == sysModules) = false) (kk : Q (.ref h.objs.size) ⟨h.push { cls := .type "dict_items", data := .fields #[.ref a] }, g, dr, t, os⟩) :
    wpAny (MM w) A (call (.builtin "dict.items") [.ref a]) Q E ⟨h, g, dr, t, os⟩ :=
  call_meetsIn (s := ⟨h, g, dr, t, os⟩) F.slot_dict_items hd.typeIs F.entry_dict_items (F.args_dict_items_1 _) (meets_dict_items (IK w) a hs) ⟨⟨_, hd⟩, kk⟩
theorem chlog_none {Ol : List (Int × Option Bool)} {dv : Int → Option Bool} (G : Good0 w h₀) (k : Keep h₀ h) (hroom : A.depth < recursionLimit) (hh : A.handled = none) (X : AS w h₀ h p D (bvs Ol) S Gs N) (hcv : p.cv = .none)
    (hdv : ∀ x ∈ Ol, (valueAt D x.1).getD .none = bv (dv x.1)) (hz : Ol.length < 900)
    (kk : ∀ h' t' d, AS w h₀ h' { p with cv := .ref d } D (bvs Ol) S Gs N → Chg [p.d] h h' → h.objs.size ≤ d → LogAt w h' d (lgOf dv Ol) → Q (.ref d) ⟨h', g, dr, t', os⟩) :
    wpAny (MM w) A (call (.ref 115) [.ref p.x]) Q E ⟨h, g, dr, t, os⟩ := by
  refine m_callC (binds := [("self", .ref p.x)]) G k hroom (fn115 w) (by kernel_rfl) (by kernel_rfl) (fun x hx => by rw [List.mem_singleton] at hx; subst hx; exact .inr ⟨by kernel_rfl, by kernel_rfl⟩) ?_
  intro h₁ t₁ fm ce
  have hce : h₁.IsCell (h.objs.size + 1) (some (.ref p.x)) := ce "self" _ rfl
  have X₁ := X.ext fm.ext X.fresh
  have k₁ : Keep h h₁ := fm.out (Nat.le_refl _)
  refine wpAny_execs_cons (wpAny_If (wpAny_isTrue_Compare1 (n_attC (v := .none) G fm.base hce X₁ (a_cv w) (fun t' => ?_) (congrArg some hcv))))
  refine Constant_none (wpAny_is_self rfl (wpAny_truthy_bool ?_))
  rw [if_pos rfl]
  refine wpAny_execs_cons (plainObj_wpAny_Assign_Attribute ?_)
  rw [arm_eval_DictComp]
  refine wpAny_comprehension_free (use := none) (cl := [("self", h.objs.size + 1)]) rfl (fun _ => rfl) rfl rfl (by decide) ?_
  refine n_bm0 F.plainAttrs_dict F.slot_dict_items F.type_dict_items (n_attC G fm.base hce X₁ (a_orig w) fun t' => ⟨_, rfl, DictOf_ob X₁.orig, n_items X₁.orig (X.sys _ (by simp)) ?_⟩)
  generalize hH2 : h₁.push { cls := .type "dict_items", data := .fields #[.ref p.orig] } = h₂
  have k₂ : Keep h₁ h₂ := fun b o e => hH2 ▸ Heap.get?_push_of_some _ e
  have X₂ := X₁.keep k₂
  obtain ⟨ep, ha₂⟩ := DictOf_ep X₂.orig
  refine wpAny_pyIter_items (knd := IK w) (s := ⟨h₂, g, dr, _, os⟩) (d := p.orig) (kvs := bvs Ol) (ep := ep) ⟨_, hH2 ▸ Heap.get?_push_size _ rfl, rfl, rfl⟩ ha₂ ?_
  generalize hH3 : h₂.push { cls := .type "dict_itemiterator", data := .fields #[.none, .bool false, .ref p.orig, .int 0 0, .int (bvs Ol).length 0, .int ep 0, .none, .none] } = h₃
  have k₃ : Keep h₂ h₃ := fun b o e => hH3 ▸ Heap.get?_push_of_some _ e
  have hI : IsItemIter h₃ h₂.objs.size p.orig 0 (bvs Ol).length ep .none .none := hH3 ▸ Heap.get?_push_size _ rfl
  have z₃ : h₃.objs.size = h₂.objs.size + 1 := by rw [← hH3, Heap.size_push]
  refine wpAny_newObj_type (s := ⟨h₃, g, dr, _, os⟩) (wpAny_newFunctionEnv (by decide) (by intro y hy; simp at hy) (fun h₅ n₅ s₅ => ?_) rfl)
  dsimp only at n₅ s₅ ⊢
  have d₄ := Heap.DictOf.new (knd := IK w) h₃
  generalize hH4 : h₃.push { cls := .type "dict", dict := none, data := .dict #[] } = h₄ at n₅ s₅ d₄ ⊢
  have k₄ : Keep h₃ h₄ := fun b o e => hH4 ▸ Heap.get?_push_of_some _ e
  have z₄ : h₄.objs.size = h₃.objs.size + 1 := by rw [← hH4, Heap.size_push]
  have up₅ : ∀ b o, h₄.get? b = some o → h₅.get? b = some o := fun b o e => s₅.extBut b o (Nat.ne_of_lt (Heap.lt_size e)) (Heap.get?_push_of_some _ e)
  have kr : Keep h₂ h₅ := k₃.trans (k₄.trans up₅)
  refine t_startD0 ?_ (fun Q E q => kcp_self (d := p.orig) (i := 0) (n := (bvs Ol).length) (ep := ep) (ok := .none) (ov := .none) (up₅ _ _ (k₄ _ _ hI)) q)
  have q1 : h₂.objs.size ≤ h₄.objs.size := by omega
  have q2 : h₂.objs.size ≤ h₃.objs.size := by omega
  have q3 : h₂.objs.size ≠ h₄.objs.size := by omega
  have q4 : h₃.objs.size ≠ h₄.objs.size := by omega
  have q5 : h₃.objs.size ≠ h₂.objs.size := by omega
  show codeAny _ _ (.compLoop (gcE _ _ _ _ _ _ _ _ _ _ _ _ _ _ _ _ _ _ _ _ _ _) 0 (.ref h₂.objs.size) (.ref h₃.objs.size) (compEnvC (gcScope w) [("self", h.objs.size + 1)] h₄.objs.size (envC (ob115 w).1 115 h.objs.size))) _ _
  refine gc_out (A := A.deeper (envC (ob115 w).1 115 h.objs.size)) (cenv := compEnvC (gcScope w) [("self", h.objs.size + 1)] h₄.objs.size (envC (ob115 w).1 115 h.objs.size)) (C := h₄.objs.size) (I := h₂.objs.size) (Dd := h₃.objs.size) (c := h.objs.size + 1) (hr := h₂) (D := D) (dv := dv) (ep := ep) hh ?hcall G rfl (by rfl) (by rfl) (by rfl) (by rfl) (by rfl) (by rfl) X₂ (fm.base.trans k₂) (hce.keeps k₂) hdv hz ha₂ q1 (Nat.le_refl _) q2 q3 q4 q5 ?_ Ol.length 0 h₅ _ _ .none .none (by omega) (up₅ _ _ (k₄ _ _ hI)) n₅ ⟨[], DictOf_at d₄ fun o e => up₅ _ o e, LogP.nil _⟩
    (fun b o _ _ _ e => kr b o e)
  case hcall => rfl
  intro h₆ t₆ m₆ n₆ u₆ l₆
  refine ⟨m₆, n₆, fun h₇ s₇ => ?_⟩
  replace s₇ : Heap.SameBut h₄.objs.size h₆ h₇ := s₇
  have k₇ : Keep h₂ h₇ := fun b o e => s₇.extBut b o (Nat.ne_of_lt (Nat.lt_of_lt_of_le (Heap.lt_size e) (by omega))) (u₆ b o (Nat.ne_of_lt (Nat.lt_of_lt_of_le (Heap.lt_size e) (by omega))) (Nat.ne_of_lt (Heap.lt_size e)) (Nat.ne_of_lt (Nat.lt_of_lt_of_le (Heap.lt_size e) (by omega))) e)
  have lg₇ : LogAt w h₇ h₃.objs.size (lgOf dv Ol) := by
    obtain ⟨kvs, d, lp⟩ := l₆
    refine ⟨kvs, DictOf_at d fun o e => s₇.extBut _ o (by omega) e, lp.at fun b u v e => s₇.extBut b _ ?_ e⟩
    rintro rfl
    obtain ⟨_, _, _, ho, hd, _⟩ := n₆
    rw [ho] at e; cases e; cases hd
  have X₇ := X₂.keep k₇
  refine n_cell (c := h.objs.size + 1) (hce.keeps (k₂.trans k₇)) ?_
  refine m_setattr (h := h₇) (G.X.keeps (fm.base.trans (k₂.trans k₇))) X₇.inst X₇.att (by decide) (a_cv w) fun h₈ t₈ n₈ s₈ => ?_
  have X₈ := X₇.set_cv s₈ n₈
  have lt7 : ∀ b, b < h₁.objs.size → b < h₂.objs.size := fun b q => by rw [← hH2, Heap.size_push]; omega
  have pd : p.d < h.objs.size := X.lt _ (by simp)
  have kb : Keep h₀ h₈ := (fm.base.trans (k₂.trans k₇)).sameBut s₈ (X.low _ (by simp))
  have hlt1 : h.objs.size < h₁.objs.size := fm.ns.lt
  have hlt2 : h₂.objs.size = h₁.objs.size + 1 := by rw [← hH2, Heap.size_push]
  have q8 : h.objs.size ≤ h₃.objs.size := by omega
  have q6 : h₃.objs.size ≠ p.d := Nat.ne_of_gt (Nat.lt_of_lt_of_le pd q8)
  have q7 : h.objs.size + 1 ≠ p.d := Nat.ne_of_gt (Nat.lt_succ_of_lt pd)
  have hce₈ : h₈.IsCell (h.objs.size + 1) (some (.ref p.x)) := (hce.keeps (k₂.trans k₇)).sameBut s₈ q7
  have lg₈ : LogAt w h₈ h₃.objs.size (lgOf dv Ol) := by
    obtain ⟨kvs, d, lp⟩ := lg₇
    refine ⟨kvs, DictOf_at d fun o e => s₈.extBut _ o q6 e, lp.at fun b u v e => s₈.extBut b _ ?_ e⟩
    rintro rfl
    obtain ⟨_, _, _, ho, hd, _⟩ := X₇.att
    rw [ho] at e; cases e; cases hd
  refine wpAny_execs_nil ?_
  refine wpAny_execs_cons (wpAny_Return_some (n_attC (p := { p with cv := .ref h₃.objs.size }) G kb hce₈ X₈ (a_cv w) (fun t' => ?_)))
  exact kk h₈ _ _ X₈ (fun b o q e => s₈.extBut b o (by simpa using q) (k₇ b o (k₂ b o (k₁ b o e)))) (by omega) lg₈
theorem chlog_some {d : Addr} (G : Good0 w h₀) (k : Keep h₀ h) (hroom : A.depth < recursionLimit) (X : AS w h₀ h p D O S Gs N) (hcv : p.cv = .ref d)
    (kk : ∀ h' t', Keep h h' → Q (.ref d) ⟨h', g, dr, t', os⟩) :
    wpAny (MM w) A (call (.ref 115) [.ref p.x]) Q E ⟨h, g, dr, t, os⟩ := by
  refine m_callC (binds := [("self", .ref p.x)]) G k hroom (fn115 w) (by kernel_rfl) (by kernel_rfl) (fun x hx => by rw [List.mem_singleton] at hx; subst hx; exact .inr ⟨by kernel_rfl, by kernel_rfl⟩) ?_
  intro h₁ t₁ fm ce
  have hce : h₁.IsCell (h.objs.size + 1) (some (.ref p.x)) := ce "self" _ rfl
  have X₁ := X.ext fm.ext X.fresh
  refine wpAny_execs_cons (wpAny_If (wpAny_isTrue_Compare1 (n_attC (v := .ref d) G fm.base hce X₁ (a_cv w) (fun t' => ?_) (congrArg some hcv))))
  refine Constant_none (wpAny_is_other rfl (by intro e; cases e) (wpAny_truthy_bool ?_))
  rw [if_neg (by decide)]
  refine wpAny_execs_nil ?_
  exact wpAny_execs_cons (wpAny_Return_some (n_attC (v := .ref d) G fm.base hce X₁ (a_cv w) (fun t' => kk _ _ (fm.out (Nat.le_refl _))) (congrArg some hcv)))
end
end
end Mine
namespace Mine
noncomputable section
section
variable {w : World} {h₀ h h' : Heap} {p : Ptr} {D O D' O' : List (Int × Value)} {S G N S' G' N' : Int → Bool} {a : Addr}
theorem AS.notup (x : AS w h₀ h p D O S G N) : ∀ a ∈ p.addrs, ∀ u v, h.get? a ≠ some (tup2 u v) := by
  intro a ha u v e
  simp only [Ptr.addrs, List.mem_cons, List.not_mem_nil, or_false] at ha
  rcases ha with rfl | rfl | rfl | rfl | rfl | rfl | rfl
  · rw [x.inst] at e; cases e
  · obtain ⟨_, _, _, ho, hd, _⟩ := x.att; rw [ho] at e; cases e; cases hd
  · obtain ⟨_, ho, hc, _⟩ := DictOf_ob x.data; exact ne_cls e ho rfl hc (by decide) rfl
  · obtain ⟨_, ho, hc, _⟩ := DictOf_ob x.orig; exact ne_cls e ho rfl hc (by decide) rfl
  · obtain ⟨_, ho, hc, _⟩ := SetI_ob x.seen; exact ne_cls e ho rfl hc (by decide) rfl
  · obtain ⟨_, ho, hc, _⟩ := SetI_ob x.asg; exact ne_cls e ho rfl hc (by decide) rfl
  · obtain ⟨_, ho, hc, _⟩ := SetI_ob x.newk; exact ne_cls e ho rfl hc (by decide) rfl
theorem LogAt.chg {l : List Addr} {d : Addr} {L : List (Int × Option Bool × Option Bool)} (x : LogAt w h d L) (c : Chg l h h') (n : d ∉ l) (nt : ∀ a ∈ l, ∀ u v, h.get? a ≠ some (tup2 u v)) : LogAt w h' d L :=
  let ⟨kvs, q, lp⟩ := x
  ⟨kvs, DictOf_at q fun o e => c _ o n e, lp.at fun b u v e => c b _ (fun m => nt b m u v e) e⟩
theorem LogAt.keep {d : Addr} {L : List (Int × Option Bool × Option Bool)} (x : LogAt w h d L) (k : Keep h h') : LogAt w h' d L := x.chg (l := []) (Chg.of_keep k) (by simp) (by simp)
theorem AS.put_orig (x : AS w h₀ h p D O S G N) (s : Heap.SameBut p.d h h') (y : Nsz h' p.d (fun y : Str => if y = "_orig" then some (.ref a) else atts p y) 6) (z : h'.DictOf (IK w) a O') (fr : a ∉ p.addrs) (lo : h₀.get? a = none)
    (sy : (a == sysModules) = false) : AS w h₀ h' { p with orig := a } D O' S G N := by
  have nd := x.nd
  simp only [Ptr.addrs, List.nodup_cons, List.mem_cons, List.not_mem_nil, or_false, not_or] at nd fr
  obtain ⟨⟨a1, a2, a3, a4, a5, a6⟩, ⟨b2, b3, b4, b5, b6⟩, ⟨c3, c4, c5, c6⟩, ⟨d4, d5, d6⟩, ⟨e5, e6⟩, f6, -⟩ := nd
  obtain ⟨r0, r1, r2, r3, r4, r5, r6⟩ := fr
  have ea : (fun y : Str => if y = "_orig" then some (.ref a) else atts p y) = atts { p with orig := a } := by
    funext y
    by_cases e : y = "_orig"
    · subst e; rfl
    · simp only [atts, if_neg e]
  rw [ea] at y
  refine ⟨(s.2 _ a1).trans x.inst, y, DictOf_at x.data fun o e => (s.2 _ (Ne.symm b2)).trans e, z, x.seen.at fun o e => (s.2 _ (Ne.symm b4)).trans e, x.asg.at fun o e => (s.2 _ (Ne.symm b5)).trans e,
    x.newk.at fun o e => (s.2 _ (Ne.symm b6)).trans e, ?_, ?_, ?_⟩
  · simp only [Ptr.addrs, List.nodup_cons, List.mem_cons, List.not_mem_nil, or_false, not_or]
    exact ⟨⟨a1, a2, Ne.symm r0, a4, a5, a6⟩, ⟨b2, Ne.symm r1, b4, b5, b6⟩, ⟨Ne.symm r2, c4, c5, c6⟩, ⟨r4, r5, r6⟩, ⟨e5, e6⟩, f6, not_false, List.nodup_nil⟩
  · intro b hb
    simp only [Ptr.addrs, List.mem_cons, List.not_mem_nil, or_false] at hb
    rcases hb with rfl | rfl | rfl | rfl | rfl | rfl | rfl
    · exact x.low _ (by simp)
    · exact x.low _ (by simp)
    · exact x.low _ (by simp)
    · exact lo
    · exact x.low _ (by simp)
    · exact x.low _ (by simp)
    · exact x.low _ (by simp)
  · intro b hb
    simp only [Ptr.addrs, List.mem_cons, List.not_mem_nil, or_false] at hb
    rcases hb with rfl | rfl | rfl | rfl | rfl | rfl | rfl
    · exact x.sys _ (by simp)
    · exact x.sys _ (by simp)
    · exact x.sys _ (by simp)
    · exact sy
    · exact x.sys _ (by simp)
    · exact x.sys _ (by simp)
    · exact x.sys _ (by simp)
theorem AS.put_data (x : AS w h₀ h p D O S G N) (s : Heap.SameBut p.d h h') (y : Nsz h' p.d (fun y : Str => if y = "_data" then some (.ref a) else atts p y) 6) (z : h'.DictOf (IK w) a D') (fr : a ∉ p.addrs) (lo : h₀.get? a = none)
    (sy : (a == sysModules) = false) : AS w h₀ h' { p with data := a } D' O S G N := by
  have nd := x.nd
  simp only [Ptr.addrs, List.nodup_cons, List.mem_cons, List.not_mem_nil, or_false, not_or] at nd fr
  obtain ⟨⟨a1, a2, a3, a4, a5, a6⟩, ⟨b2, b3, b4, b5, b6⟩, ⟨c3, c4, c5, c6⟩, ⟨d4, d5, d6⟩, ⟨e5, e6⟩, f6, -⟩ := nd
  obtain ⟨r0, r1, r2, r3, r4, r5, r6⟩ := fr
  have ea : (fun y : Str => if y = "_data" then some (.ref a) else atts p y) = atts { p with data := a } := by
    funext y
    by_cases e : y = "_data"
    · subst e; rfl
    · simp only [atts, if_neg e]
  rw [ea] at y
  refine ⟨(s.2 _ a1).trans x.inst, y, z, DictOf_at x.orig fun o e => (s.2 _ (Ne.symm b3)).trans e, x.seen.at fun o e => (s.2 _ (Ne.symm b4)).trans e, x.asg.at fun o e => (s.2 _ (Ne.symm b5)).trans e,
    x.newk.at fun o e => (s.2 _ (Ne.symm b6)).trans e, ?_, ?_, ?_⟩
  · simp only [Ptr.addrs, List.nodup_cons, List.mem_cons, List.not_mem_nil, or_false, not_or]
    exact ⟨⟨a1, Ne.symm r0, a3, a4, a5, a6⟩, ⟨Ne.symm r1, b3, b4, b5, b6⟩, ⟨r3, r4, r5, r6⟩, ⟨d4, d5, d6⟩, ⟨e5, e6⟩, f6, not_false, List.nodup_nil⟩
  · intro b hb
    simp only [Ptr.addrs, List.mem_cons, List.not_mem_nil, or_false] at hb
    rcases hb with rfl | rfl | rfl | rfl | rfl | rfl | rfl
    case inr.inr.inl => exact lo
    all_goals exact x.low _ (by simp)
  · intro b hb
    simp only [Ptr.addrs, List.mem_cons, List.not_mem_nil, or_false] at hb
    rcases hb with rfl | rfl | rfl | rfl | rfl | rfl | rfl
    case inr.inr.inl => exact sy
    all_goals exact x.sys _ (by simp)
theorem AS.put_seen (x : AS w h₀ h p D O S G N) (s : Heap.SameBut p.d h h') (y : Nsz h' p.d (fun y : Str => if y = "_seen" then some (.ref a) else atts p y) 6) (z : SetI w h' a S') (fr : a ∉ p.addrs) (lo : h₀.get? a = none)
    (sy : (a == sysModules) = false) : AS w h₀ h' { p with seen := a } D O S' G N := by
  have nd := x.nd
  simp only [Ptr.addrs, List.nodup_cons, List.mem_cons, List.not_mem_nil, or_false, not_or] at nd fr
  obtain ⟨⟨a1, a2, a3, a4, a5, a6⟩, ⟨b2, b3, b4, b5, b6⟩, ⟨c3, c4, c5, c6⟩, ⟨d4, d5, d6⟩, ⟨e5, e6⟩, f6, -⟩ := nd
  obtain ⟨r0, r1, r2, r3, r4, r5, r6⟩ := fr
  have ea : (fun y : Str => if y = "_seen" then some (.ref a) else atts p y) = atts { p with seen := a } := by
    funext y
    by_cases e : y = "_seen"
    · subst e; rfl
    · simp only [atts, if_neg e]
  rw [ea] at y
  refine ⟨(s.2 _ a1).trans x.inst, y, DictOf_at x.data fun o e => (s.2 _ (Ne.symm b2)).trans e, DictOf_at x.orig fun o e => (s.2 _ (Ne.symm b3)).trans e, z, x.asg.at fun o e => (s.2 _ (Ne.symm b5)).trans e,
    x.newk.at fun o e => (s.2 _ (Ne.symm b6)).trans e, ?_, ?_, ?_⟩
  · simp only [Ptr.addrs, List.nodup_cons, List.mem_cons, List.not_mem_nil, or_false, not_or]
    exact ⟨⟨a1, a2, a3, Ne.symm r0, a5, a6⟩, ⟨b2, b3, Ne.symm r1, b5, b6⟩, ⟨c3, Ne.symm r2, c5, c6⟩, ⟨Ne.symm r3, d5, d6⟩, ⟨r5, r6⟩, f6, not_false, List.nodup_nil⟩
  · intro b hb
    simp only [Ptr.addrs, List.mem_cons, List.not_mem_nil, or_false] at hb
    rcases hb with rfl | rfl | rfl | rfl | rfl | rfl | rfl
    case inr.inr.inr.inr.inl => exact lo
    all_goals exact x.low _ (by simp)
  · intro b hb
    simp only [Ptr.addrs, List.mem_cons, List.not_mem_nil, or_false] at hb
    rcases hb with rfl | rfl | rfl | rfl | rfl | rfl | rfl
    case inr.inr.inr.inr.inl => exact sy
    all_goals exact x.sys _ (by simp)
theorem AS.put_asg (x : AS w h₀ h p D O S G N) (s : Heap.SameBut p.d h h') (y : Nsz h' p.d (fun y : Str => if y = "_assigned_ids" then some (.ref a) else atts p y) 6) (z : SetI w h' a G') (fr : a ∉ p.addrs) (lo : h₀.get? a = none)
    (sy : (a == sysModules) = false) : AS w h₀ h' { p with asg := a } D O S G' N := by
  have nd := x.nd
  simp only [Ptr.addrs, List.nodup_cons, List.mem_cons, List.not_mem_nil, or_false, not_or] at nd fr
  obtain ⟨⟨a1, a2, a3, a4, a5, a6⟩, ⟨b2, b3, b4, b5, b6⟩, ⟨c3, c4, c5, c6⟩, ⟨d4, d5, d6⟩, ⟨e5, e6⟩, f6, -⟩ := nd
  obtain ⟨r0, r1, r2, r3, r4, r5, r6⟩ := fr
  have ea : (fun y : Str => if y = "_assigned_ids" then some (.ref a) else atts p y) = atts { p with asg := a } := by
    funext y
    by_cases e : y = "_assigned_ids"
    · subst e; rfl
    · simp only [atts, if_neg e]
  rw [ea] at y
  refine ⟨(s.2 _ a1).trans x.inst, y, DictOf_at x.data fun o e => (s.2 _ (Ne.symm b2)).trans e, DictOf_at x.orig fun o e => (s.2 _ (Ne.symm b3)).trans e, x.seen.at fun o e => (s.2 _ (Ne.symm b4)).trans e, z,
    x.newk.at fun o e => (s.2 _ (Ne.symm b6)).trans e, ?_, ?_, ?_⟩
  · simp only [Ptr.addrs, List.nodup_cons, List.mem_cons, List.not_mem_nil, or_false, not_or]
    exact ⟨⟨a1, a2, a3, a4, Ne.symm r0, a6⟩, ⟨b2, b3, b4, Ne.symm r1, b6⟩, ⟨c3, c4, Ne.symm r2, c6⟩, ⟨d4, Ne.symm r3, d6⟩, ⟨Ne.symm r4, e6⟩, r6, not_false, List.nodup_nil⟩
  · intro b hb
    simp only [Ptr.addrs, List.mem_cons, List.not_mem_nil, or_false] at hb
    rcases hb with rfl | rfl | rfl | rfl | rfl | rfl | rfl
    case inr.inr.inr.inr.inr.inl => exact lo
    all_goals exact x.low _ (by simp)
  · intro b hb
    simp only [Ptr.addrs, List.mem_cons, List.not_mem_nil, or_false] at hb
    rcases hb with rfl | rfl | rfl | rfl | rfl | rfl | rfl
    case inr.inr.inr.inr.inr.inl => exact sy
    all_goals exact x.sys _ (by simp)
theorem AS.put_newk (x : AS w h₀ h p D O S G N) (s : Heap.SameBut p.d h h') (y : Nsz h' p.d (fun y : Str => if y = "new_keys" then some (.ref a) else atts p y) 6) (z : SetI w h' a N') (fr : a ∉ p.addrs) (lo : h₀.get? a = none)
    (sy : (a == sysModules) = false) : AS w h₀ h' { p with newk := a } D O S G N' := by
  have nd := x.nd
  simp only [Ptr.addrs, List.nodup_cons, List.mem_cons, List.not_mem_nil, or_false, not_or] at nd fr
  obtain ⟨⟨a1, a2, a3, a4, a5, a6⟩, ⟨b2, b3, b4, b5, b6⟩, ⟨c3, c4, c5, c6⟩, ⟨d4, d5, d6⟩, ⟨e5, e6⟩, f6, -⟩ := nd
  obtain ⟨r0, r1, r2, r3, r4, r5, r6⟩ := fr
  have ea : (fun y : Str => if y = "new_keys" then some (.ref a) else atts p y) = atts { p with newk := a } := by
    funext y
    by_cases e : y = "new_keys"
    · subst e; rfl
    · simp only [atts, if_neg e]
  rw [ea] at y
  refine ⟨(s.2 _ a1).trans x.inst, y, DictOf_at x.data fun o e => (s.2 _ (Ne.symm b2)).trans e, DictOf_at x.orig fun o e => (s.2 _ (Ne.symm b3)).trans e, x.seen.at fun o e => (s.2 _ (Ne.symm b4)).trans e,
    x.asg.at fun o e => (s.2 _ (Ne.symm b5)).trans e, z, ?_, ?_, ?_⟩
  · simp only [Ptr.addrs, List.nodup_cons, List.mem_cons, List.not_mem_nil, or_false, not_or]
    exact ⟨⟨a1, a2, a3, a4, a5, Ne.symm r0⟩, ⟨b2, b3, b4, b5, Ne.symm r1⟩, ⟨c3, c4, c5, Ne.symm r2⟩, ⟨d4, d5, Ne.symm r3⟩, ⟨e5, Ne.symm r4⟩, Ne.symm r5, not_false, List.nodup_nil⟩
  · intro b hb
    simp only [Ptr.addrs, List.mem_cons, List.not_mem_nil, or_false] at hb
    rcases hb with rfl | rfl | rfl | rfl | rfl | rfl | rfl
    case inr.inr.inr.inr.inr.inr => exact lo
    all_goals exact x.low _ (by simp)
  · intro b hb
    simp only [Ptr.addrs, List.mem_cons, List.not_mem_nil, or_false] at hb
    rcases hb with rfl | rfl | rfl | rfl | rfl | rfl | rfl
    case inr.inr.inr.inr.inr.inr => exact sy
    all_goals exact x.sys _ (by simp)
end
/-- the cached log -/
noncomputable def CvOk (w : World) (h₀ h : Heap) (p : Ptr) (L : List (Int × Option Bool × Option Bool)) : Prop := p.cv = .none ∨ ∃ d, p.cv = .ref d ∧ d ∉ p.addrs ∧ LogAt w h d L
section
variable {w : World} {A : Around} {E : Value → Shared → Prop} {h₀ h hb : Heap} {L : Addr} {m : Str → Option Value} {g : Array GenState} {dr : Drawn} {t : Nat} {os : OsState} {p : Ptr} {D O : List (Int × Value)} {S Gs N : Int → Bool} {Q : Value → Shared → Prop} {env : Env}
theorem chlog_ok {Ol : List (Int × Option Bool)} {dv : Int → Option Bool} (G : Good0 w h₀) (k : Keep h₀ h) (hroom : A.depth < recursionLimit) (hh : A.handled = none) (X : AS w h₀ h p D (bvs Ol) S Gs N) (hcv : CvOk w h₀ h p (lgOf dv Ol))
    (hdv : ∀ x ∈ Ol, (valueAt D x.1).getD .none = bv (dv x.1)) (hz : Ol.length < 900)
    (kk : ∀ h' t' d, AS w h₀ h' { p with cv := .ref d } D (bvs Ol) S Gs N → Chg [p.d] h h' → d ∉ p.addrs → (p.cv = .ref d ∨ h.objs.size ≤ d) → LogAt w h' d (lgOf dv Ol) → Q (.ref d) ⟨h', g, dr, t', os⟩) :
    wpAny (MM w) A (call (.ref 115) [.ref p.x]) Q E ⟨h, g, dr, t, os⟩ := by
  rcases hcv with hcv | ⟨d, hcv, hn, lg⟩
  · exact chlog_none G k hroom hh X hcv hdv hz fun h' t' d X' c' q lg => kk h' t' d X' c' (fun e => Nat.not_lt.mpr q (X.lt _ e)) (.inr q) lg
  · refine chlog_some G k hroom X hcv fun h' t' k' => kk h' t' d ?_ (Chg.of_keep k') hn (.inl hcv) (lg.keep k')
    have := X.keep k'
    rw [← hcv]
    exact this
/-- self.NAME(), a method of the class; the object's name is x -/
theorem n_um0 {x : Str} {np apos pos : Pos} {name : Str} {fa : Addr} {o : Obj} (G : Good0 w h₀) (fm : Fm h₀ L hb h m) (X : AS w h₀ h p D O S Gs N) (hc : findIn (KK w) (.ref 170) name = some (some (.ref fa))) (fn : FnIs w fa o)
    (k : wpAny (MM w) A (call (.ref fa) [.ref p.x]) Q E ⟨h, g, dr, t, os⟩)
    (hat : atts p name = none := by rfl) (ht : typeIn (KK w) (.ref fa) = some (.type "function") := by kernel_rfl)
    (hself : m x = some (.ref p.x) := by rfl) (hk : env.scope.kind = .function := by rfl) (hL : env.locals = L := by rfl) (hl : env.kindOf x = some .local := by rfl)
    (he : eval (.Call (.Attribute (.Name x np) name apos) [] [] pos) env = (do
      let ov ← eval (.Name x np) env
      standAt apos.atName
      let (fx, first) ← holding [ov] (getMethod ov name (do return ((← importBound (.Name x np) env).getD true)))
      callWith pos fx first (backTo pos (starEach [] env)) []) := by rfl) (hd : (x == ("__debug__" : Str)) = false := by decide) :
    wpAny (MM w) A (eval (.Call (.Attribute (.Name x np) name apos) [] [] pos) env) Q E ⟨h, g, dr, t, os⟩ := by
  refine MethodCall_ (m_name fm hself hk hL hl (m_method (G.X.keeps fm.base) X.inst X.att.ns hat hc ht ?_) hd) he
  exact callWith_meth0 fn.data (G.X.keeps fm.base _ _ fn.at_) k
theorem f_chlog (w : World) : findIn (KK w) (.ref 170) "get_changelog" = some (some (.ref 115)) := by kernel_rfl
theorem consume_ok {Ol : List (Int × Option Bool)} {dv : Int → Option Bool} (G : Good0 w h₀) (k : Keep h₀ h) (hroom : A.depth + 1 < recursionLimit) (hh : A.handled = none) (X : AS w h₀ h p D (bvs Ol) S Gs N) (hcv : CvOk w h₀ h p (lgOf dv Ol))
    (hdv : ∀ x ∈ Ol, (valueAt D x.1).getD .none = bv (dv x.1)) (hz : Ol.length < 900)
    (kk : ∀ h' t' p' d, AS w h₀ h' p' D (bvs []) S Gs (fun _ => false) → p'.x = p.x → (∀ a ∈ p'.addrs, a ∈ p.addrs ∨ h.objs.size ≤ a) → (∃ e, p'.cv = .ref e ∧ e ∉ p'.addrs ∧ h.objs.size ≤ e ∧ LogAt w h' e []) →
      Chg p.addrs h h' → d ∉ p'.addrs → (p.cv = .ref d ∨ h.objs.size ≤ d) → LogAt w h' d (lgOf dv Ol) → Q (.ref d) ⟨h', g, dr, t', os⟩) :
    wpAny (MM w) A (call (.ref 122) [.ref p.x]) Q E ⟨h, g, dr, t, os⟩ := by
  refine m_call (binds := [("self", .ref p.x)]) G k (by omega) (fn122 w) (by kernel_rfl) (BindsTo.of_eq (by kernel_rfl)) (by kernel_rfl) ?_
  intro h₁ t₁ fm
  have X₁ := X.ext fm.ext X.fresh
  have k₁ : Keep h h₁ := fm.out (Nat.le_refl _)
  have hcv₁ : CvOk w h₀ h₁ p (lgOf dv Ol) := hcv.imp id fun ⟨d, a, b, e⟩ => ⟨d, a, b, e.keep k₁⟩
  have fr0 := X.fresh
  refine wpAny_execs_cons (wpAny_Assign_Name (n_um0 G fm X₁ (f_chlog w) (fn115 w) (chlog_ok G fm.base hroom hh X₁ hcv₁ hdv hz fun h₂ t₂ d X₂ c₂ dn dq lg₂ => ?_)))
  have pd : p.d ∈ p.addrs := by simp
  have fm₂ := fm.chg c₂ (fun e => fr0 (by rw [List.mem_singleton] at e; rw [e]; exact pd)) (fun a ha => by rw [List.mem_singleton] at ha; rw [ha]; exact X.low _ pd)
  refine m_store fm₂ rfl rfl fun h₃ t₃ fm₃ => ?_
  have X₃ := X₂.ext fm₃.ext fr0
  have hlt1 : h.objs.size < h₁.objs.size := fm.ns.lt
  have dL : d ≠ h.objs.size := by
    rcases dq with q | q
    · rcases hcv with r | ⟨d', r, _, lg⟩
      · rw [r] at q; cases q
      · rw [r] at q; cases q
        obtain ⟨_, ⟨_, _, _, ho, _⟩, _⟩ := lg
        exact Nat.ne_of_lt (Heap.lt_size ho)
    · exact Nat.ne_of_gt (Nat.lt_of_lt_of_le hlt1 q)
  have lg₃ : LogAt w h₃ d (lgOf dv Ol) := lg₂.chg (l := [h.objs.size]) (fun b o n e => fm₃.ext b o (by simpa using n) e) (by simpa using dL) (fun a ha u v e => by
    rw [List.mem_singleton] at ha; subst ha
    obtain ⟨_, _, _, ho, hd, _⟩ := fm₂.ns
    rw [ho] at e; cases e; cases hd)
  refine wpAny_execs_cons (plainObj_wpAny_Assign_Attribute (wpAny_Dict_empty (n_loc (fm₃.push _) ?_)))
  have d₄ := Heap.DictOf.new (knd := IK w) h₃
  have fm₄ := fm₃.push { cls := .type "dict", data := .dict #[] }
  have k₄ : Keep h₃ (h₃.push { cls := .type "dict", data := .dict #[] }) := fun b o e => Heap.get?_push_of_some _ e
  generalize hH4 : h₃.push { cls := .type "dict", data := .dict #[] } = h₄ at d₄ fm₄ k₄ ⊢
  have z₄ : h₄.objs.size = h₃.objs.size + 1 := by rw [← hH4, Heap.size_push]
  have X₄ := X₃.keep k₄
  refine m_setattr (h := h₄) (G.X.keeps fm₄.base) X₄.inst X₄.att (by decide) (a_orig w) fun h₅ t₅ n₅ s₅ => ?_
  have lt3 : ∀ a ∈ p.addrs, a < h₃.objs.size := fun a ha => X₃.lt a ha
  have fr3 : h₃.objs.size ∉ p.addrs := fun e => Nat.lt_irrefl _ (lt3 _ e)
  have lg₅ : LogAt w h₅ d (lgOf dv Ol) := (lg₃.keep k₄).chg (Chg.of_same (l := p.addrs) s₅ pd) dn X₄.notup
  have q3 : h₃.objs.size ≠ p.d := fun q => fr3 (by rw [q]; exact pd)
  have X₅ := X₄.put_orig (O' := []) s₅ n₅ (DictOf_at d₄ fun o e => (s₅.2 _ q3).trans e) fr3 (low_size fm₃.base (Nat.le_refl _)) (G.sys fm₃.base (Nat.le_refl _))
  have fm₅ := fm₄.turn s₅ (fun e => fr0 (e ▸ pd)) (X.low _ pd)
  refine wpAny_execs_cons (plainObj_wpAny_Assign_Attribute (wpAny_Dict_empty (n_loc (fm₅.push _) ?_)))
  have d₆ := Heap.DictOf.new (knd := IK w) h₅
  have fm₆ := fm₅.push { cls := .type "dict", data := .dict #[] }
  have k₆ : Keep h₅ (h₅.push { cls := .type "dict", data := .dict #[] }) := fun b o e => Heap.get?_push_of_some _ e
  generalize hH6 : h₅.push { cls := .type "dict", data := .dict #[] } = h₆ at d₆ fm₆ k₆ ⊢
  have X₆ := X₅.keep k₆
  have fr5 : h₅.objs.size ∉ (Ptr.addrs { p with orig := h₃.objs.size, cv := .ref d }) := fun e => Nat.lt_irrefl _ (X₅.lt _ e)
  have pd' : p.d ∈ (Ptr.addrs { p with orig := h₃.objs.size, cv := .ref d }) := by simp
  have h15 : h.objs.size < h₅.objs.size := fm₅.ns.lt
  have h13 : h.objs.size < h₃.objs.size := fm₃.ns.lt
  have dn' : d ∉ (Ptr.addrs { p with orig := h₃.objs.size, cv := .ref d }) := fun e => by
    simp only [Ptr.addrs, List.mem_cons, List.not_mem_nil, or_false] at e dn
    have : d < h₃.objs.size := by
      obtain ⟨_, ⟨_, _, _, ho, _⟩, _⟩ := lg₃
      exact Heap.lt_size ho
    rcases e with e | e | e | e | e | e | e
    · exact dn (.inl e)
    · exact dn (.inr (.inl e))
    · exact dn (.inr (.inr (.inl e)))
    · exact Nat.ne_of_lt this e
    · exact dn (.inr (.inr (.inr (.inr (.inl e)))))
    · exact dn (.inr (.inr (.inr (.inr (.inr (.inl e))))))
    · exact dn (.inr (.inr (.inr (.inr (.inr (.inr e))))))
  refine m_setattr (h := h₆) (G.X.keeps fm₆.base) X₆.inst X₆.att (by decide) (a_cv w) fun h₇ t₇ n₇ s₇ => ?_
  have X₇ := X₆.set_cv s₇ n₇
  have fm₇ := fm₆.turn s₇ (fun e => fr0 (e ▸ pd)) (X.low _ pd)
  have lg₇ : LogAt w h₇ d (lgOf dv Ol) := (lg₅.keep k₆).chg (Chg.of_same (l := Ptr.addrs { p with orig := h₃.objs.size, cv := .ref d }) s₇ pd') dn' X₆.notup
  have q5 : h₅.objs.size ≠ p.d := fun q => fr5 (by rw [q]; exact pd')
  have le₇ : LogAt w h₇ h₅.objs.size [] := ⟨[], DictOf_at d₆ fun o e => (s₇.2 _ q5).trans e, LogP.nil _⟩
  refine wpAny_execs_cons (wpAny_Expr_any (n_bm0 F.plainAttrs_set F.slot_set_clear F.type_set_clear (n_att G fm₇ X₇ (a_newk w) fun t' => ⟨_, rfl, SetI_ob X₇.newk, m_clear X₇.newk fun h₈ t₈ s₈ i₈ => ?_⟩)))
  have X₈ := X₇.set_newk s₈ i₈
  have fm₈ := fm₇.turn s₈ (fun e => fr0 (by rw [← e]; simp)) (X.low _ (by simp))
  have nk : p.newk ∈ (Ptr.addrs { p with orig := h₃.objs.size, cv := .ref d }) := by simp
  refine wpAny_execs_cons (wpAny_Return_some (n_loc fm₈ ?_))
  refine kk h₈ _ _ d X₈ rfl ?_ ⟨h₅.objs.size, rfl, fr5, Nat.le_of_lt h15, le₇.chg (Chg.of_same (l := Ptr.addrs { p with orig := h₃.objs.size, cv := .ref d }) s₈ nk) fr5 X₇.notup⟩ ?_ dn' (dq.imp id fun q => Nat.le_trans (Nat.le_of_lt hlt1) q) (lg₇.chg (Chg.of_same (l := Ptr.addrs { p with orig := h₃.objs.size, cv := .ref d }) s₈ nk) dn' X₇.notup)
  · intro a ha
    simp only [Ptr.addrs, List.mem_cons, List.not_mem_nil, or_false] at ha ⊢
    rcases ha with e | e | e | e | e | e | e
    · exact .inl (.inl e)
    · exact .inl (.inr (.inl e))
    · exact .inl (.inr (.inr (.inl e)))
    · exact .inr (by rw [e]; exact Nat.le_of_lt h13)
    · exact .inl (.inr (.inr (.inr (.inr (.inl e)))))
    · exact .inl (.inr (.inr (.inr (.inr (.inr (.inl e))))))
    · exact .inl (.inr (.inr (.inr (.inr (.inr (.inr e))))))
  · intro b o n e
    have ne : b ≠ h.objs.size := Nat.ne_of_lt (Heap.lt_size e)
    have nd : b ≠ p.d := fun q => n (q ▸ pd)
    have nk : b ≠ p.newk := fun q => n (by rw [q]; simp)
    exact (s₈.2 b nk).trans ((s₇.2 b nd).trans (k₆ b o ((s₅.2 b nd).trans (k₄ b o (fm₃.ext b o ne (c₂ b o (by simpa using nd) (k₁ b o e)))))))
end
end
end Mine
namespace Mine
noncomputable section
theorem b_set (w : World) : nsIn (KK w) mainGlobals "set" = some none := by kernel_rfl
theorem bo_set : bootBuiltins "set" = some (.type "set") := by decide +kernel
theorem init_makes (w : World) : makesIn (KK w) 170 = true := by kernel_rfl
theorem f_init (w : World) : findIn (KK w) (.ref 170) "__init__" = some (some (.ref 29)) := by kernel_rfl
section
variable {w : World} {A : Around} {E : Value → Shared → Prop} {h₀ h hb : Heap} {L : Addr} {m : Str → Option Value} {g : Array GenState} {dr : Drawn} {t : Nat} {os : OsState} {env : Env} {Q : Value → Shared → Prop}
theorem m_callR {f : Addr} {o : Obj} {args : List Value} {binds : List (Str × Value)} {R : Result → Shared → Prop} (G : Good0 w h₀) (k : Keep h₀ h) (hroom : A.depth < recursionLimit) (fn : FnIs w f o)
    (nocell : ((fdOf o).scope.names.all fun x => x.2 != .cell) = true) (bt : BindsTo ⟨h, g, dr, t, os⟩ (fdOf o) ⟨args, []⟩ binds) (hloc : (binds.all fun x => decide ((fdOf o).scope.names.lookup x.1 = some .local)) = true)
    (body : ∀ h₁ t₁, Fm h₀ h.objs.size h h₁ (fun x => binds.reverse.lookup x) →
      wpAny (MM w) (A.deeper (envA o f h.objs.size)) (execs (bdOf (fdOf o)) (envA o f h.objs.size)) (fun fl s' => R (.ok (.ret (match fl with | .ret v => v | _ => .none))) s')
        (fun e s' => wpAny (MM w) (A.deeper (envA o f h.objs.size)) (leaving (envA o f h.objs.size) e) (fun _ s'' => R (.error e) s'') (fun e' s'' => R (.error e') s'') s') ⟨h₁, g, dr, t₁, os⟩) :
    codeAny (MM w) A (.call (.ref f) ⟨args, []⟩) R ⟨h, g, dr, t, os⟩ := by
  have G' := G.keep k
  refine codeAny_call_def hroom (G'.X _ _ fn.at_) fn.data G'.lim (codeRec_of G'.X fn.code) fn.body bt ?_ (locs hloc) (fun h₁ hn hk => ?_) fn.co fn.gen fn.kind
  · intro x hx
    have := List.all_eq_true.mp nocell x hx
    simpa using this
  · exact body h₁ _ ⟨hn, fun b o _ e => hk b o e, k.trans hk, low_size k (Nat.le_refl _)⟩
/-- set() -/
theorem n_set0 {np pos : Pos} (G : Good0 w h₀) (fm : Fm h₀ L hb h m) (k : Q (.ref h.objs.size) ⟨h.push (newSetObj w), g, dr, t, os⟩)
    (hk : env.scope.kind = .function := by rfl) (hg : env.globals = mainGlobals := by rfl) (hbn : env.builtins = builtinsNs := by rfl) (hx : env.kindOf "set" = some .globalImplicit := by rfl)
    (he : eval (.Call (.Name "set" np) [] [] pos) env = (do callWith pos (← eval (.Name "set" np) env) [] (backTo pos (starEach [] env)) (backToKw pos (keywordEach [] env))) := by rfl) :
    wpAny (MM w) A (eval (.Call (.Name "set" np) [] [] pos) env) Q E ⟨h, g, dr, t, os⟩ := by
  refine Call_ (m_builtin G fm bo_set (b_set w) hk hg hbn hx ?_) he
  exact callWith_type0 (m_set0 k)
/-- the six names of a fresh object -/
theorem init_six {x d : Addr} {E' : Value → Shared → Prop} {A' : Around} {R : Flow → Shared → Prop} (G : Good0 w h₀) (fm : Fm h₀ L hb h m) (hs : m "self" = some (.ref x)) (hx : h.get? x = some (instObj 170 d)) (hd : Nsz h d (fun _ => none) 0)
    (xd : x ≠ d) (xL : x ≠ L) (dL : d ≠ L) (lx : h₀.get? x = none) (ld : h₀.get? d = none) (sx : (x == sysModules) = false) (sd : (d == sysModules) = false)
    (kk : ∀ h' t' p, p.x = x → p.d = d → p.cv = .none → AS w h₀ h' p [] (bvs []) (fun _ => false) (fun _ => false) (fun _ => false) → Fm h₀ L h' h' m → Chg [d] h h' → (∀ a ∈ p.addrs, a = x ∨ a = d ∨ h.objs.size ≤ a) →
      wpAny (MM w) A' (execs ((bdOf (fdOf (ob29 w).1)).drop 6) (envA (ob29 w).1 29 L)) R E' ⟨h', g, dr, t', os⟩) :
    wpAny (MM w) A' (execs (bdOf (fdOf (ob29 w).1)) (envA (ob29 w).1 29 L)) R E' ⟨h, g, dr, t, os⟩ := by
  have zL : L < h.objs.size := fm.ns.lt
  have zx : x < h.objs.size := Heap.lt_size hx
  have zd : d < h.objs.size := let ⟨_, _, _, ho, _⟩ := hd; Heap.lt_size ho
  -- _data
  refine wpAny_execs_cons (plainObj_wpAny_Assign_Attribute (wpAny_Dict_empty (n_loc (fm.push _) ?_ hs)))
  have d₁ := Heap.DictOf.new (knd := IK w) h
  have fm₁ := fm.push { cls := .type "dict", data := .dict #[] }
  have k₁ : Keep h (h.push { cls := .type "dict", data := .dict #[] }) := fun b o e => Heap.get?_push_of_some _ e
  have z₁ : (h.push { cls := .type "dict", data := .dict #[] }).objs.size = h.objs.size + 1 := Heap.size_push ..
  generalize h.push { cls := .type "dict", data := .dict #[] } = h₁ at d₁ fm₁ k₁ z₁ ⊢
  refine m_setattr (h := h₁) (G.X.keeps fm₁.base) (k₁ _ _ hx) (hd.at fun o e => k₁ _ o e) (by decide) (a_data w) fun g₁ t₁ n₁ s₁ => ?_
  replace n₁ : Nsz g₁ d _ 1 := n₁
  have x₁ : g₁.get? x = some (instObj 170 d) := (s₁.2 _ xd).trans (k₁ _ _ hx)
  have f₁ := fm₁.turn s₁ dL ld
  replace d₁ : g₁.DictOf (IK w) h.objs.size [] := DictOf_at d₁ fun o e => (s₁.2 _ (Nat.ne_of_gt zd)).trans e
  have y₁ : g₁.objs.size = h.objs.size + 1 := s₁.1.trans z₁
  -- _orig
  refine wpAny_execs_cons (plainObj_wpAny_Assign_Attribute (wpAny_Dict_empty (n_loc (f₁.push _) ?_ hs)))
  have d₂ := Heap.DictOf.new (knd := IK w) g₁
  have fm₂ := f₁.push { cls := .type "dict", data := .dict #[] }
  have k₂ : Keep g₁ (g₁.push { cls := .type "dict", data := .dict #[] }) := fun b o e => Heap.get?_push_of_some _ e
  have z₂ : (g₁.push { cls := .type "dict", data := .dict #[] }).objs.size = g₁.objs.size + 1 := Heap.size_push ..
  generalize g₁.push { cls := .type "dict", data := .dict #[] } = h₂ at d₂ fm₂ k₂ z₂ ⊢
  refine m_setattr (h := h₂) (G.X.keeps fm₂.base) (k₂ _ _ x₁) (n₁.at fun o e => k₂ _ o e) (by decide) (a_orig w) fun g₂ t₂ n₂ s₂ => ?_
  replace n₂ : Nsz g₂ d _ 2 := n₂
  have x₂ : g₂.get? x = some (instObj 170 d) := (s₂.2 _ xd).trans (k₂ _ _ x₁)
  have f₂ := fm₂.turn s₂ dL ld
  have e₁ : g₁.objs.size ≠ d := Nat.ne_of_gt (Nat.lt_of_lt_of_le zd (by omega))
  replace d₂ : g₂.DictOf (IK w) g₁.objs.size [] := DictOf_at d₂ fun o e => (s₂.2 _ e₁).trans e
  have y₂ : g₂.objs.size = h.objs.size + 2 := s₂.1.trans (by omega)
  -- _seen
  refine wpAny_execs_cons (plainObj_wpAny_Assign_Attribute (n_set0 G f₂ (n_loc (f₂.push _) ?_ hs)))
  have d₃ := newSet_setI w g₂
  have fm₃ := f₂.push (newSetObj w)
  have k₃ : Keep g₂ (g₂.push (newSetObj w)) := fun b o e => Heap.get?_push_of_some _ e
  have z₃ : (g₂.push (newSetObj w)).objs.size = g₂.objs.size + 1 := Heap.size_push ..
  generalize g₂.push (newSetObj w) = h₃ at d₃ fm₃ k₃ z₃ ⊢
  refine m_setattr (h := h₃) (G.X.keeps fm₃.base) (k₃ _ _ x₂) (n₂.at fun o e => k₃ _ o e) (by decide) (a_seen w) fun g₃ t₃ n₃ s₃ => ?_
  replace n₃ : Nsz g₃ d _ 3 := n₃
  have x₃ : g₃.get? x = some (instObj 170 d) := (s₃.2 _ xd).trans (k₃ _ _ x₂)
  have f₃ := fm₃.turn s₃ dL ld
  have e₂ : g₂.objs.size ≠ d := Nat.ne_of_gt (Nat.lt_of_lt_of_le zd (by omega))
  replace d₃ : SetI w g₃ g₂.objs.size (fun _ => false) := d₃.at fun o e => (s₃.2 _ e₂).trans e
  have y₃ : g₃.objs.size = h.objs.size + 3 := s₃.1.trans (by omega)
  -- _cached_changelog
  refine wpAny_execs_cons (plainObj_wpAny_Assign_Attribute (Constant_none (n_loc f₃ ?_ hs)))
  refine m_setattr (h := g₃) (G.X.keeps f₃.base) x₃ n₃ (by decide) (a_cv w) fun g₄ t₄ n₄ s₄ => ?_
  replace n₄ : Nsz g₄ d _ 4 := n₄
  have x₄ : g₄.get? x = some (instObj 170 d) := (s₄.2 _ xd).trans x₃
  have f₄ := f₃.turn s₄ dL ld
  have y₄ : g₄.objs.size = h.objs.size + 3 := s₄.1.trans y₃
  -- _assigned_ids
  refine wpAny_execs_cons (plainObj_wpAny_Assign_Attribute (n_set0 G f₄ (n_loc (f₄.push _) ?_ hs)))
  have d₅ := newSet_setI w g₄
  have fm₅ := f₄.push (newSetObj w)
  have k₅ : Keep g₄ (g₄.push (newSetObj w)) := fun b o e => Heap.get?_push_of_some _ e
  have z₅ : (g₄.push (newSetObj w)).objs.size = g₄.objs.size + 1 := Heap.size_push ..
  generalize g₄.push (newSetObj w) = h₅ at d₅ fm₅ k₅ z₅ ⊢
  refine m_setattr (h := h₅) (G.X.keeps fm₅.base) (k₅ _ _ x₄) (n₄.at fun o e => k₅ _ o e) (by decide) (a_asg w) fun g₅ t₅ n₅ s₅ => ?_
  replace n₅ : Nsz g₅ d _ 5 := n₅
  have x₅ : g₅.get? x = some (instObj 170 d) := (s₅.2 _ xd).trans (k₅ _ _ x₄)
  have f₅ := fm₅.turn s₅ dL ld
  have e₄ : g₄.objs.size ≠ d := Nat.ne_of_gt (Nat.lt_of_lt_of_le zd (by omega))
  replace d₅ : SetI w g₅ g₄.objs.size (fun _ => false) := d₅.at fun o e => (s₅.2 _ e₄).trans e
  have y₅ : g₅.objs.size = h.objs.size + 4 := s₅.1.trans (by omega)
  -- new_keys
  refine wpAny_execs_cons (plainObj_wpAny_Assign_Attribute (n_set0 G f₅ (n_loc (f₅.push _) ?_ hs)))
  have d₆ := newSet_setI w g₅
  have fm₆ := f₅.push (newSetObj w)
  have k₆ : Keep g₅ (g₅.push (newSetObj w)) := fun b o e => Heap.get?_push_of_some _ e
  have z₆ : (g₅.push (newSetObj w)).objs.size = g₅.objs.size + 1 := Heap.size_push ..
  generalize g₅.push (newSetObj w) = h₆ at d₆ fm₆ k₆ z₆ ⊢
  refine m_setattr (h := h₆) (G.X.keeps fm₆.base) (k₆ _ _ x₅) (n₅.at fun o e => k₆ _ o e) (by decide) (a_newk w) fun g₆ t₆ n₆ s₆ => ?_
  replace n₆ : Nsz g₆ d _ 6 := n₆
  have x₆ : g₆.get? x = some (instObj 170 d) := (s₆.2 _ xd).trans (k₆ _ _ x₅)
  have f₆ := fm₆.turn s₆ dL ld
  have e₅ : g₅.objs.size ≠ d := Nat.ne_of_gt (Nat.lt_of_lt_of_le zd (by omega))
  replace d₆ : SetI w g₆ g₅.objs.size (fun _ => false) := d₆.at fun o e => (s₆.2 _ e₅).trans e
  -- carry all to g₆
  have e₀ : h.objs.size ≠ d := Nat.ne_of_gt zd
  have c₅ : Chg [d] g₅ g₆ := fun b o n e => (s₆.2 b (by simpa using n)).trans (k₆ b o e)
  have c₄ : Chg [d] g₄ g₅ := fun b o n e => (s₅.2 b (by simpa using n)).trans (k₅ b o e)
  have c₃ : Chg [d] g₃ g₄ := fun b o n e => (s₄.2 b (by simpa using n)).trans e
  have c₂ : Chg [d] g₂ g₃ := fun b o n e => (s₃.2 b (by simpa using n)).trans (k₃ b o e)
  have c₁ : Chg [d] g₁ g₂ := fun b o n e => (s₂.2 b (by simpa using n)).trans (k₂ b o e)
  have c₀ : Chg [d] h g₁ := fun b o n e => (s₁.2 b (by simpa using n)).trans (k₁ b o e)
  have low : ∀ a, h.objs.size ≤ a → h₀.get? a = none := fun a q => low_size fm.base q
  have sy : ∀ a, h.objs.size ≤ a → (a == sysModules) = false := fun a q => G.sys fm.base q
  refine kk g₆ _ ⟨x, d, h.objs.size, g₁.objs.size, g₂.objs.size, g₄.objs.size, g₅.objs.size, .none⟩ rfl rfl rfl ?_ f₆ (c₀.trans (c₁.trans (c₂.trans (c₃.trans (c₄.trans c₅))))) ?_
  · refine ⟨x₆, ?_, DictOf_at d₁ fun o e => c₅ _ o (by simpa using e₀) (c₄ _ o (by simpa using e₀) (c₃ _ o (by simpa using e₀) (c₂ _ o (by simpa using e₀) (c₁ _ o (by simpa using e₀) e)))),
      DictOf_at d₂ fun o e => c₅ _ o (by simpa using e₁) (c₄ _ o (by simpa using e₁) (c₃ _ o (by simpa using e₁) (c₂ _ o (by simpa using e₁) e))),
      d₃.at fun o e => c₅ _ o (by simpa using e₂) (c₄ _ o (by simpa using e₂) (c₃ _ o (by simpa using e₂) e)), d₅.at fun o e => c₅ _ o (by simpa using e₄) e, d₆, ?_, ?_, ?_⟩
    · have : (fun y : Str => if y = "new_keys" then some (Value.ref g₅.objs.size) else if y = "_assigned_ids" then some (.ref g₄.objs.size) else if y = "_cached_changelog" then some .none else if y = "_seen" then some (.ref g₂.objs.size) else if y = "_orig" then some (.ref g₁.objs.size) else if y = "_data" then some (.ref h.objs.size) else none)
          = atts ⟨x, d, h.objs.size, g₁.objs.size, g₂.objs.size, g₄.objs.size, g₅.objs.size, .none⟩ := by
        funext y
        unfold atts
        by_cases q1 : y = "_data"
        · subst q1; rfl
        by_cases q2 : y = "_orig"
        · subst q2; rfl
        by_cases q3 : y = "_seen"
        · subst q3; rfl
        by_cases q4 : y = "_cached_changelog"
        · subst q4; rfl
        by_cases q5 : y = "_assigned_ids"
        · subst q5; rfl
        by_cases q6 : y = "new_keys"
        · subst q6; rfl
        simp only [if_neg q1, if_neg q2, if_neg q3, if_neg q4, if_neg q5, if_neg q6]
      rw [← this]
      exact n₆
    · have w1 : x ≠ h.objs.size := Nat.ne_of_lt zx
      have w2 : d ≠ h.objs.size := Nat.ne_of_lt zd
      have big : ∀ n, x ≠ h.objs.size + n ∧ d ≠ h.objs.size + n := fun n => ⟨Nat.ne_of_lt (Nat.lt_of_lt_of_le zx (Nat.le_add_right _ _)), Nat.ne_of_lt (Nat.lt_of_lt_of_le zd (Nat.le_add_right _ _))⟩
      rw [y₁, y₂, y₄, y₅]
      simp only [Ptr.addrs, List.nodup_cons, List.mem_cons, List.not_mem_nil, or_false, not_or]
      refine ⟨⟨xd, w1, (big 1).1, (big 2).1, (big 3).1, (big 4).1⟩, ⟨w2, (big 1).2, (big 2).2, (big 3).2, (big 4).2⟩, ⟨?_, ?_, ?_, ?_⟩, ⟨?_, ?_, ?_⟩, ⟨?_, ?_⟩, ?_, not_false, List.nodup_nil⟩ <;> exact Nat.ne_of_lt (by omega)
    · intro a ha
      simp only [Ptr.addrs, List.mem_cons, List.not_mem_nil, or_false] at ha
      rcases ha with rfl | rfl | rfl | rfl | rfl | rfl | rfl
      · exact lx
      · exact ld
      all_goals exact low _ (by omega)
    · intro a ha
      simp only [Ptr.addrs, List.mem_cons, List.not_mem_nil, or_false] at ha
      rcases ha with rfl | rfl | rfl | rfl | rfl | rfl | rfl
      · exact sx
      · exact sd
      all_goals exact sy _ (by omega)
  · intro a ha
    simp only [Ptr.addrs, List.mem_cons, List.not_mem_nil, or_false] at ha
    rcases ha with e | e | e | e | e | e | e
    · exact .inl e
    · exact .inr (.inl e)
    all_goals exact .inr (.inr (by rw [e]; omega))
end
end
end Mine
namespace Mine
noncomputable section
/-- what a set of assignments holds, told by plain functions -/
structure Rel (D : List (Int × Value)) (Ol : List (Int × Option Bool)) (S G N : Int → Bool) (tv : Int → Option (Option Bool)) (bf : Int → Option Bool) (nf : Int → Bool) : Prop where
  keysD : ∀ x ∈ D, ab x.1 ∈ K3
  keysO : ∀ x ∈ Ol, x.1 ∈ K3 ∧ x.2 = bf x.1
  rest : ∀ k ∈ K3, k ∉ Ol.map (·.1) → (tv k).join = bf k
  pos : ∀ k ∈ K3, valueAt D k = (tv k).join.map .bool
  neg : ∀ k ∈ K3, valueAt D (-k) = (tv k).join.map fun b => .bool (!b)
  s : S = fun k => (tv k).isSome
  g : G = fun k => (tv k).join.isSome
  n : N = nf
  tvz : ∀ k, k ∉ K3 → tv k = none
  nfz : ∀ k, k ∉ K3 → nf k = false
noncomputable def upd {α : Type} (f : Int → α) (k : Int) (v : α) : Int → α := fun j => if j = k then v else f j
theorem upd_self {α : Type} (f : Int → α) (k : Int) (v : α) : upd f k v k = v := by simp [upd]
theorem upd_ne {α : Type} (f : Int → α) {k j : Int} (v : α) (h : j ≠ k) : upd f k v j = f j := by simp [upd, h]
theorem nek {j k : Int} (hj : j ∉ K3) (hk : k ∈ K3) : j ≠ k := fun e => hj (by rw [e]; exact hk)
theorem k3_pos {k : Int} (h : k ∈ K3) : 0 < k := by
  have : ∀ k ∈ K3, 0 < k := by decide
  exact this k h
theorem ab_pos {k : Int} (h : 0 < k) : ab k = k := by unfold ab; rw [if_neg (by omega)]
theorem ab_npos {k : Int} (h : 0 < k) : ab (-k) = k := by rw [ab_neg, ab_pos h]
theorem vo_bv {D : List (Int × Value)} {Ol : List (Int × Option Bool)} {S G N : Int → Bool} {tv : Int → Option (Option Bool)} {bf : Int → Option Bool} {nf : Int → Bool} (r : Rel D Ol S G N tv bf nf) {k : Int} (h : k ∈ K3) :
    (valueAt D k).getD .none = bv (tv k).join := by
  rw [r.pos k h]
  cases (tv k).join <;> rfl
theorem mem_without {kvs : List (Int × Value)} {k : Int} {x : Int × Value} (h : x ∈ without kvs k) : x ∈ kvs := (List.mem_filter.mp h).1
theorem mem_stored {kvs : List (Int × Value)} {k : Int} {v : Value} {x : Int × Value} (h : x ∈ stored kvs k v) : x.1 = k ∨ x ∈ kvs := by
  unfold stored at h
  split at h
  · obtain ⟨y, hy, e⟩ := List.mem_map.mp h
    split at e
    · rename_i q; subst e; exact .inl q
    · subst e; exact .inr hy
  · rcases List.mem_append.mp h with q | q
    · exact .inr q
    · rw [List.mem_singleton] at q; subst q; exact .inl rfl
/-- setdefault among plain pairs -/
noncomputable def sdO (Ol : List (Int × Option Bool)) (k : Int) (o : Option Bool) : List (Int × Option Bool) := if k ∈ Ol.map (·.1) then Ol else Ol ++ [(k, o)]
theorem va_bvs_isSome (Ol : List (Int × Option Bool)) (k : Int) : (valueAt (bvs Ol) k).isSome = decide (k ∈ Ol.map (·.1)) := by
  unfold valueAt
  rw [Option.isSome_map, Bool.eq_iff_iff, List.find?_isSome, decide_eq_true_iff]
  simp only [bvs, List.mem_map, decide_eq_true_eq]
  constructor
  · rintro ⟨x, ⟨y, hy, rfl⟩, e⟩; exact ⟨y, hy, e⟩
  · rintro ⟨y, hy, e⟩; exact ⟨_, ⟨y, hy, rfl⟩, e⟩
theorem setdef_bvs (Ol : List (Int × Option Bool)) (k : Int) (o : Option Bool) : setdef (bvs Ol) k (bv o) = bvs (sdO Ol k o) := by
  unfold setdef sdO
  rw [va_bvs_isSome]
  by_cases q : k ∈ Ol.map (·.1)
  · rw [if_pos (decide_eq_true q), if_pos q]
  · rw [if_neg (by rw [decide_eq_false q]; decide), if_neg q]
    simp [bvs]
theorem mem_sdO {Ol : List (Int × Option Bool)} {k : Int} {o : Option Bool} {x : Int × Option Bool} (h : x ∈ sdO Ol k o) : x ∈ Ol ∨ (k ∉ Ol.map (·.1) ∧ x = (k, o)) := by
  unfold sdO at h
  split at h
  · exact .inl h
  · rename_i q
    rcases List.mem_append.mp h with r | r
    · exact .inl r
    · exact .inr ⟨q, by simpa using r⟩
theorem sdO_keys {Ol : List (Int × Option Bool)} {k : Int} {o : Option Bool} {j : Int} (h : j ∉ (sdO Ol k o).map (·.1)) : j ≠ k ∧ j ∉ Ol.map (·.1) := by
  unfold sdO at h
  split at h
  · rename_i q; exact ⟨fun e => h (e ▸ q), h⟩
  · rw [List.map_append, List.mem_append, not_or] at h
    exact ⟨fun e => h.2 (by simp [e]), h.1⟩
theorem len_sdO (Ol : List (Int × Option Bool)) (k : Int) (o : Option Bool) : (sdO Ol k o).length ≤ Ol.length + 1 := by
  unfold sdO; split
  · omega
  · simp
section
variable {D : List (Int × Value)} {Ol : List (Int × Option Bool)} {S G N : Int → Bool} {tv : Int → Option (Option Bool)} {bf : Int → Option Bool} {nf : Int → Bool} {k key : Int} {b : Bool}
theorem negk3 {j k : Int} (hj : j ∈ K3) (hk : k ∈ K3) : -j ≠ k := by have := k3_pos hj; have := k3_pos hk; omega
theorem ab_key (hk : k ∈ K3) (h : key = k ∨ key = -k) : ab key = k := by
  rcases h with rfl | rfl
  · exact ab_pos (k3_pos hk)
  · exact ab_npos (k3_pos hk)
/-- a wish is granted or refused -/
theorem Rel.bool (r : Rel D Ol S G N tv bf nf) (hk : k ∈ K3) (h : key = k ∨ key = -k) :
    Rel (stored (stored D key (.bool b)) (-key) (.bool (!b))) (sdO Ol k (tv k).join) (fun j => S j || j == ab key) (fun j => G j || j == ab key) (fun j => N j || (!S (ab key) && j == ab key))
      (upd tv k (some (some (if key = k then b else !b)))) bf (fun j => nf j || (!(tv k).isSome && j == k)) := by
  have ha := ab_key hk h
  have hp := k3_pos hk
  rw [ha]
  have vD : ∀ j, valueAt (stored (stored D key (.bool b)) (-key) (.bool (!b))) j = if j = -key then some (.bool (!b)) else if j = key then some (.bool b) else valueAt D j := fun j => by
    rw [va_stored, va_stored]
  refine ⟨fun x hx => ?_, fun x hx => ?_, fun j hj hn => ?_, fun j hj => ?_, fun j hj => ?_, ?_, ?_, ?_, fun j hj => ?_, fun j hj => ?_⟩
  · rcases mem_stored hx with q | q
    · rw [q, ab_neg, ha]; exact hk
    · rcases mem_stored q with q | q
      · rw [q, ha]; exact hk
      · exact r.keysD x q
  · rcases mem_sdO hx with q | ⟨q, rfl⟩
    · exact r.keysO x q
    · exact ⟨hk, r.rest k hk q⟩
  · have := sdO_keys hn
    rw [upd_ne _ _ this.1]
    exact r.rest j hj this.2
  · rw [vD]
    by_cases q : j = k
    · subst q
      rw [upd_self]
      rcases h with rfl | rfl
      · rw [if_neg (by omega), if_pos rfl, if_pos rfl]; rfl
      · rw [if_pos (by omega), if_neg (by omega)]; rfl
    · rw [upd_ne _ _ q, if_neg, if_neg, r.pos j hj]
      · rcases h with rfl | rfl
        · exact q
        · have := k3_pos hj; omega
      · rcases h with rfl | rfl
        · have := k3_pos hj; omega
        · omega
  · rw [vD]
    by_cases q : j = k
    · subst q
      rw [upd_self]
      rcases h with rfl | rfl
      · rw [if_pos rfl, if_pos rfl]; rfl
      · rw [if_neg (by omega), if_pos rfl, if_neg (by omega)]; simp
    · rw [upd_ne _ _ q, if_neg, if_neg, r.neg j hj]
      · rcases h with rfl | rfl
        · have := k3_pos hj; omega
        · omega
      · rcases h with rfl | rfl
        · omega
        · have := k3_pos hj; omega
  · funext j
    rw [r.s]
    by_cases q : j = k
    · subst q; rw [upd_self]; simp
    · rw [upd_ne _ _ q]; simp [q]
  · funext j
    rw [r.g]
    by_cases q : j = k
    · subst q; rw [upd_self]; simp
    · rw [upd_ne _ _ q]; simp [q]
  · rw [r.n, r.s]
  · rw [upd_ne _ _ (nek hj hk)]; exact r.tvz j hj
  · rw [r.nfz j hj, beq_eq_false_iff_ne.mpr (nek hj hk)]; simp
/-- a variable is made open that was open or unknown -/
theorem Rel.open0 (r : Rel D Ol S G N tv bf nf) (hk : k ∈ K3) (h : ab key = k) (hv : (tv k).join = none) :
    Rel D Ol (fun j => S j || j == ab key) G (fun j => N j || (!S (ab key) && j == ab key)) (upd tv k (some none)) bf (fun j => nf j || (!(tv k).isSome && j == k)) := by
  rw [h]
  have ej : ∀ j, (upd tv k (some none) j).join = (tv j).join := fun j => by
    by_cases q : j = k
    · subst q; rw [upd_self, hv]; rfl
    · rw [upd_ne _ _ q]
  refine ⟨r.keysD, r.keysO, fun j hj hn => (ej j).trans (r.rest j hj hn), fun j hj => by rw [ej]; exact r.pos j hj, fun j hj => by rw [ej]; exact r.neg j hj, ?_, ?_, ?_, fun j hj => ?_, fun j hj => ?_⟩
  · funext j
    rw [r.s]
    by_cases q : j = k
    · subst q; rw [upd_self]; simp
    · rw [upd_ne _ _ q]; simp [q]
  · funext j; rw [r.g, ej]
  · rw [r.n, r.s]
  · rw [upd_ne _ _ (nek hj hk)]; exact r.tvz j hj
  · rw [r.nfz j hj, beq_eq_false_iff_ne.mpr (nek hj hk)]; simp
/-- the two ways to take a value away -/
theorem Rel.take {v : Option (Option Bool)} (r : Rel D Ol S G N tv bf nf) (hk : k ∈ K3) (hv : (tv k).join = some b) (e : v.join = none) (S' : Int → Bool) (N' nf' : Int → Bool) (hs : S' = fun j => (upd tv k v j).isSome) (hn : N' = nf') (hz : ∀ j, j ∉ K3 → nf' j = false) :
    Rel (without (without D k) (-k)) (sdO Ol k (some b)) S' (fun j => G j && j != k) N' (upd tv k v) bf nf' := by
  have hp := k3_pos hk
  have vD : ∀ j, valueAt (without (without D k) (-k)) j = if j = -k then none else if j = k then none else valueAt D j := fun j => by rw [va_without, va_without]
  refine ⟨fun x hx => r.keysD x (mem_without (mem_without hx)), fun x hx => ?_, fun j hj hn => ?_, fun j hj => ?_, fun j hj => ?_, hs, ?_, hn, fun j hj => ?_, hz⟩
  · rcases mem_sdO hx with q | ⟨q, rfl⟩
    · exact r.keysO x q
    · exact ⟨hk, by rw [← r.rest k hk q, hv]⟩
  · have := sdO_keys hn
    rw [upd_ne _ _ this.1]
    exact r.rest j hj this.2
  · rw [vD]
    by_cases q : j = k
    · subst q; rw [upd_self, e, if_neg (by omega), if_pos rfl]; rfl
    · rw [upd_ne _ _ q, if_neg (by have := k3_pos hj; omega), if_neg q, r.pos j hj]
  · rw [vD]
    by_cases q : j = k
    · subst q; rw [upd_self, e, if_pos rfl]; rfl
    · rw [upd_ne _ _ q, if_neg (by omega), if_neg (by have := k3_pos hj; omega), r.neg j hj]
  · funext j
    rw [r.g]
    by_cases q : j = k
    · subst q; rw [upd_self, e]; simp
    · rw [upd_ne _ _ q]; simp [q]
  · rw [upd_ne _ _ (nek hj hk)]; exact r.tvz j hj
theorem Rel.open1 (r : Rel D Ol S G N tv bf nf) (hk : k ∈ K3) (hv : (tv k).join = some b) :
    Rel (without (without D k) (-k)) (sdO Ol k (some b)) (fun j => S j || j == k) (fun j => G j && j != k) (fun j => N j || (!S k && j == k)) (upd tv k (some none)) bf (fun j => nf j || (!(tv k).isSome && j == k)) := by
  refine r.take hk hv rfl _ _ _ ?_ (by rw [r.n, r.s]) fun j hj => ?_
  · funext j
    rw [r.s]
    by_cases q : j = k
    · subst q; rw [upd_self]; simp
    · rw [upd_ne _ _ q]; simp [q]
  · rw [r.nfz j hj, beq_eq_false_iff_ne.mpr (nek hj hk)]; simp
theorem Rel.del1 (r : Rel D Ol S G N tv bf nf) (hk : k ∈ K3) (hv : (tv k).join = some b) :
    Rel (without (without D k) (-k)) (sdO Ol k (some b)) (fun j => S j && j != k) (fun j => G j && j != k) N (upd tv k none) bf nf := by
  refine r.take hk hv rfl _ _ _ ?_ r.n r.nfz
  funext j
  rw [r.s]
  by_cases q : j = k
  · subst q; rw [upd_self]; simp
  · rw [upd_ne _ _ q]; simp [q]
theorem Rel.del0 (r : Rel D Ol S G N tv bf nf) (hk : k ∈ K3) (hv : (tv k).join = none) : Rel D Ol (fun j => S j && j != k) G N (upd tv k none) bf nf := by
  have ej : ∀ j, (upd tv k none j).join = (tv j).join := fun j => by
    by_cases q : j = k
    · subst q; rw [upd_self, hv]; rfl
    · rw [upd_ne _ _ q]
  refine ⟨r.keysD, r.keysO, fun j hj hn => (ej j).trans (r.rest j hj hn), fun j hj => by rw [ej]; exact r.pos j hj, fun j hj => by rw [ej]; exact r.neg j hj, ?_, ?_, r.n, fun j hj => ?_, r.nfz⟩
  · funext j
    rw [r.s]
    by_cases q : j = k
    · subst q; rw [upd_self]; simp
    · rw [upd_ne _ _ q]; simp [q]
  · funext j; rw [r.g, ej]
  · rw [upd_ne _ _ (nek hj hk)]; exact r.tvz j hj
theorem Rel.consume (r : Rel D Ol S G N tv bf nf) : Rel D [] S G (fun _ => false) tv (fun k => (tv k).join) (fun _ => false) :=
  ⟨r.keysD, fun x hx => by simp at hx, fun _ _ _ => rfl, r.pos, r.neg, r.s, r.g, rfl, r.tvz, fun _ _ => rfl⟩
theorem Rel.zero : Rel [] [] (fun _ => false) (fun _ => false) (fun _ => false) (fun _ => none) (fun _ => none) (fun _ => false) :=
  ⟨fun x hx => by simp at hx, fun x hx => by simp at hx, fun _ _ _ => rfl, fun _ _ => rfl, fun _ _ => rfl, rfl, rfl, rfl, fun _ _ => rfl, fun _ _ => rfl⟩
end
/-- few keys, few pairs -/
theorem len_of_keys {α : Type} {l : List (Int × α)} {ks : List Int} (nd : (l.map (·.1)).Nodup) (h : ∀ x ∈ l, x.1 ∈ ks) : l.length ≤ ks.length := by
  induction l generalizing ks with
  | nil => exact Nat.zero_le _
  | cons x l ih =>
    have hx := h x (by simp)
    rw [List.map_cons, List.nodup_cons] at nd
    have := ih (ks := ks.erase x.1) nd.2 fun y hy => (List.mem_erase_of_ne fun e => nd.1 (List.mem_map.mpr ⟨y, hy, e⟩)).mpr (h y (by simp [hy]))
    rw [List.length_erase_of_mem hx] at this
    have := List.length_pos_of_mem hx
    rw [List.length_cons]; omega
end
end Mine
namespace Mine
noncomputable section
noncomputable abbrev jn (tv : Int → Option (Option Bool)) : Int → Option Bool := fun k => (tv k).join
/-- a set of assignments that reads as told -/
noncomputable def St (w : World) (h₀ h : Heap) (p : Ptr) (tv : Int → Option (Option Bool)) (bf : Int → Option Bool) (nf : Int → Bool) : Prop :=
  ∃ D Ol S G N, AS w h₀ h p D (bvs Ol) S G N ∧ Rel D Ol S G N tv bf nf ∧ CvOk w h₀ h p (lgOf (jn tv) Ol)
/-- what a log must be -/
structure IsLog (L : List (Int × Option Bool × Option Bool)) (tv : Int → Option (Option Bool)) (bf : Int → Option Bool) : Prop where
  nd : (L.map (·.1)).Nodup
  mem : ∀ k o n, (k, o, n) ∈ L ↔ k ∈ K3 ∧ o = bf k ∧ n = (tv k).join ∧ n ≠ o
section
variable {w : World} {h₀ h h' : Heap} {p : Ptr} {tv : Int → Option (Option Bool)} {bf : Int → Option Bool} {nf : Int → Bool} {D : List (Int × Value)} {Ol : List (Int × Option Bool)} {S G N : Int → Bool}
theorem AS.ndO (X : AS w h₀ h p D (bvs Ol) S G N) : (Ol.map (·.1)).Nodup := by
  obtain ⟨_, _, _, _, _, _, _, _, hnd⟩ := X.orig
  simpa [bvs, List.map_map, Function.comp_def] using hnd
theorem AS.ndD (X : AS w h₀ h p D (bvs Ol) S G N) : (D.map (·.1)).Nodup := by
  obtain ⟨_, _, _, _, _, _, _, _, hnd⟩ := X.data
  exact hnd
theorem lenO (X : AS w h₀ h p D (bvs Ol) S G N) (r : Rel D Ol S G N tv bf nf) : Ol.length ≤ 3 := len_of_keys (ks := K3) X.ndO fun x hx => (r.keysO x hx).1
theorem lenD (X : AS w h₀ h p D (bvs Ol) S G N) (r : Rel D Ol S G N tv bf nf) : D.length ≤ 6 := by
  refine len_of_keys (ks := [3, 8, 16, -3, -8, -16]) X.ndD fun x hx => ?_
  have := r.keysD x hx
  have q : ∀ a, ab a ∈ K3 → a ∈ ([3, 8, 16, -3, -8, -16] : List Int) := by
    intro a ha
    simp only [K3, List.mem_cons, List.not_mem_nil, or_false, ab] at ha ⊢
    split at ha <;> omega
  exact q _ this
theorem isLog (X : AS w h₀ h p D (bvs Ol) S G N) (r : Rel D Ol S G N tv bf nf) : IsLog (lgOf (jn tv) Ol) tv bf := by
  refine ⟨?_, fun k o n => ?_⟩
  · unfold lgOf
    rw [List.map_map]
    exact X.ndO.sublist ((List.filter_sublist).map _)
  · unfold lgOf
    simp only [List.mem_map, List.mem_filter, bne_iff_ne]
    constructor
    · rintro ⟨x, ⟨hx, hne⟩, e⟩
      cases e
      exact ⟨(r.keysO x hx).1, (r.keysO x hx).2, rfl, hne⟩
    · rintro ⟨hk, rfl, rfl, hne⟩
      by_cases q : k ∈ Ol.map (·.1)
      · obtain ⟨x, hx, rfl⟩ := List.mem_map.mp q
        refine ⟨x, ⟨hx, ?_⟩, ?_⟩
        · rw [(r.keysO x hx).2]; exact hne
        · rw [← (r.keysO x hx).2]
      · exact absurd (r.rest k hk q) hne
theorem CvOk.keep {L : List (Int × Option Bool × Option Bool)} (x : CvOk w h₀ h p L) (k : Keep h h') : CvOk w h₀ h' p L := x.imp id fun ⟨d, a, b, c⟩ => ⟨d, a, b, c.keep k⟩
theorem CvOk.chg {L : List (Int × Option Bool × Option Bool)} {l : List Addr} (x : CvOk w h₀ h p L) (c : Chg l h h') (nt : ∀ a ∈ l, ∀ u v, h.get? a ≠ some (tup2 u v)) (n : ∀ d, p.cv = .ref d → d ∉ l) : CvOk w h₀ h' p L :=
  x.imp id fun ⟨d, a, b, e⟩ => ⟨d, a, b, e.chg c (n d a) nt⟩
theorem St.keep (x : St w h₀ h p tv bf nf) (k : Keep h h') : St w h₀ h' p tv bf nf :=
  let ⟨D, Ol, S, G, N, X, r, c⟩ := x; ⟨D, Ol, S, G, N, X.keep k, r, c.keep k⟩
theorem St.chg {l : List Addr} (x : St w h₀ h p tv bf nf) (c : Chg l h h') (nt : ∀ a ∈ l, ∀ u v, h.get? a ≠ some (tup2 u v)) (dis : ∀ a ∈ p.addrs, a ∉ l) (n : ∀ d, p.cv = .ref d → d ∉ l) : St w h₀ h' p tv bf nf :=
  let ⟨D, Ol, S, G, N, X, r, cv⟩ := x; ⟨D, Ol, S, G, N, X.of fun a ha o e => c a o (dis a ha) e, r, cv.chg c nt n⟩
theorem St.lt (x : St w h₀ h p tv bf nf) : ∀ a ∈ p.addrs, a < h.objs.size := let ⟨_, _, _, _, _, X, _, _⟩ := x; X.lt
theorem St.notup (x : St w h₀ h p tv bf nf) : ∀ a ∈ p.addrs, ∀ u v, h.get? a ≠ some (tup2 u v) := let ⟨_, _, _, _, _, X, _, _⟩ := x; X.notup
theorem St.low (x : St w h₀ h p tv bf nf) : ∀ a ∈ p.addrs, h₀.get? a = none := let ⟨_, _, _, _, _, X, _, _⟩ := x; X.low
theorem St.cvlt (x : St w h₀ h p tv bf nf) : ∀ d, p.cv = .ref d → d < h.objs.size := by
  intro d e
  obtain ⟨_, _, _, _, _, _, _, c⟩ := x
  rcases c with c | ⟨d', c, _, _, ⟨_, _, _, ho, _⟩, _⟩
  · rw [c] at e; cases e
  · rw [c] at e; cases e; exact Heap.lt_size ho
theorem St.cvn (x : St w h₀ h p tv bf nf) : ∀ d, p.cv = .ref d → d ∉ p.addrs := by
  intro d e
  obtain ⟨_, _, _, _, _, _, _, c⟩ := x
  rcases c with c | ⟨d', c, n, _⟩
  · rw [c] at e; cases e
  · rw [c] at e; cases e; exact n
end
section
variable {w : World} {A : Around} {E : Value → Shared → Prop} {h₀ h : Heap} {g : Array GenState} {dr : Drawn} {t : Nat} {os : OsState} {p : Ptr} {tv : Int → Option (Option Bool)} {bf : Int → Option Bool} {nf : Int → Bool} {Q : Value → Shared → Prop} {k key : Int} {tk : Tok} {b : Bool}
theorem st_setb (G : Good0 w h₀) (kp : Keep h₀ h) (hroom : A.depth + 1 < recursionLimit) (X : St w h₀ h p tv bf nf) (hk : k ∈ K3) (hkey : key = k ∨ key = -k)
    (kk : ∀ h' t', St w h₀ h' { p with cv := .none } (upd tv k (some (some (if key = k then b else !b)))) bf (fun j => nf j || (!(tv k).isSome && j == k)) → Chg p.addrs h h' → Q .none ⟨h', g, dr, t', os⟩) :
    wpAny (MM w) A (call (.ref 36) [.ref p.x, .int key tk, .bool b]) Q E ⟨h, g, dr, t, os⟩ := by
  obtain ⟨D, Ol, S, Gs, N, X, r, cv⟩ := X
  have ha := ab_key hk hkey
  have l1 := lenO X r
  have l2 := lenD X r
  refine set_bool G kp hroom X (by rw [ha]; exact hk) (by rw [List.length_map]; omega) (by omega) fun h' t' X' c' => kk h' t' ⟨_, _, _, _, _, ?_, r.bool hk hkey, .inl rfl⟩ c'
  rw [← setdef_bvs, ← vo_bv r hk]
  have : vOf D (ab key) = (valueAt D k).getD .none := by rw [ha]
  rw [← this, ← ha]
  exact X'
theorem va_key {D : List (Int × Value)} {Ol : List (Int × Option Bool)} {S Gs N : Int → Bool} (r : Rel D Ol S Gs N tv bf nf) (hk : k ∈ K3) (hkey : key = k ∨ key = -k) (hv : (tv k).join = none) : valueAt D key = none := by
  rcases hkey with rfl | rfl
  · rw [r.pos _ hk, hv]; rfl
  · rw [r.neg _ hk, hv]; rfl
theorem jn_upd {v : Option (Option Bool)} (hv : (tv k).join = v.join) : jn (upd tv k v) = jn tv := by
  funext j
  unfold jn
  by_cases q : j = k
  · subst q; rw [upd_self, hv]
  · rw [upd_ne _ _ q]
theorem st_setn (G : Good0 w h₀) (kp : Keep h₀ h) (hroom : A.depth + 2 < recursionLimit) (X : St w h₀ h p tv bf nf) (hk : k ∈ K3) (hkey : key = k ∨ (key = -k ∧ (tv k).join = none))
    (kk : ∀ h' t' p', p'.x = p.x → p'.addrs = p.addrs → (p'.cv = p.cv ∨ p'.cv = .none) → St w h₀ h' p' (upd tv k (some none)) bf (fun j => nf j || (!(tv k).isSome && j == k)) → Chg p.addrs h h' → Q .none ⟨h', g, dr, t', os⟩) :
    wpAny (MM w) A (call (.ref 36) [.ref p.x, .int key tk, .none]) Q E ⟨h, g, dr, t, os⟩ := by
  have X0 := X
  obtain ⟨D, Ol, S, Gs, N, X, r, cv⟩ := X
  have hkey' : key = k ∨ key = -k := hkey.imp id And.left
  have ha := ab_key hk hkey'
  have l1 := lenO X r
  have l2 := lenD X r
  cases hv : (tv k).join with
  | none =>
    refine set_none_none G kp hroom X (by rw [ha]; exact hk) (va_key r hk hkey' hv) fun h' t' X' c' => kk h' t' p rfl rfl (.inl rfl) ⟨_, _, _, _, _, X', r.open0 hk ha hv, ?_⟩ c'
    rw [jn_upd (v := some none) hv]
    exact cv.chg c' X.notup X0.cvn
  | some b =>
    obtain rfl : key = k := by
      rcases hkey with e | ⟨_, e⟩
      · exact e
      · rw [hv] at e; cases e
    have v1 : valueAt D key = some (.bool b) := by rw [r.pos _ hk, hv]; rfl
    have v2 : valueAt D (-key) = some (.bool (!b)) := by rw [r.neg _ hk, hv]; rfl
    refine set_none_some G kp hroom X (by rw [ha]; exact hk) v1 v2 (by rw [List.length_map]; omega) (by omega) fun h' t' X' c' => kk h' t' { p with cv := .none } rfl rfl (.inr rfl) ⟨_, _, _, _, _, ?_, r.open1 hk hv, .inl rfl⟩ c'
    rw [← setdef_bvs]
    rw [ha] at X'
    exact X'
theorem st_del (G : Good0 w h₀) (kp : Keep h₀ h) (hroom : A.depth + 1 < recursionLimit) (X : St w h₀ h p tv bf nf) (hk : k ∈ K3)
    (kk : ∀ h' t' p', p'.x = p.x → p'.addrs = p.addrs → (p'.cv = p.cv ∨ p'.cv = .none) → St w h₀ h' p' (upd tv k none) bf nf → Chg p.addrs h h' → Q .none ⟨h', g, dr, t', os⟩) :
    wpAny (MM w) A (call (.ref 43) [.ref p.x, .int k tk]) Q E ⟨h, g, dr, t, os⟩ := by
  have X0 := X
  obtain ⟨D, Ol, S, Gs, N, X, r, cv⟩ := X
  have ha := ab_key hk (.inl rfl)
  have l1 := lenO X r
  have l2 := lenD X r
  cases hv : (tv k).join with
  | none =>
    refine del_none G kp hroom X (by rw [ha]; exact hk) (va_key r hk (.inl rfl) hv) fun h' t' X' c' => kk h' t' p rfl rfl (.inl rfl) ⟨_, _, _, _, _, ?_, r.del0 hk hv, ?_⟩ c'
    · rw [ha] at X'; exact X'
    · rw [jn_upd (v := none) hv]
      exact cv.chg c' X.notup X0.cvn
  | some b =>
    have v1 : valueAt D k = some (.bool b) := by rw [r.pos _ hk, hv]; rfl
    have v2 : valueAt D (-k) = some (.bool (!b)) := by rw [r.neg _ hk, hv]; rfl
    refine del_some G kp hroom X (by rw [ha]; exact hk) v1 v2 (by rw [List.length_map]; omega) (by omega) fun h' t' X' c' => kk h' t' { p with cv := .none } rfl rfl (.inr rfl) ⟨_, _, _, _, _, ?_, r.del1 hk hv, .inl rfl⟩ c'
    rw [← setdef_bvs]
    rw [ha] at X'
    exact X'
theorem st_chlog (G : Good0 w h₀) (kp : Keep h₀ h) (hroom : A.depth < recursionLimit) (hh : A.handled = none) (X : St w h₀ h p tv bf nf)
    (kk : ∀ h' t' d L, St w h₀ h' { p with cv := .ref d } tv bf nf → Chg [p.d] h h' → d ∉ p.addrs → (p.cv = .ref d ∨ h.objs.size ≤ d) → LogAt w h' d L → IsLog L tv bf → Q (.ref d) ⟨h', g, dr, t', os⟩) :
    wpAny (MM w) A (call (.ref 115) [.ref p.x]) Q E ⟨h, g, dr, t, os⟩ := by
  obtain ⟨D, Ol, S, Gs, N, X, r, cv⟩ := X
  have l1 := lenO X r
  exact chlog_ok G kp hroom hh X cv (fun x hx => vo_bv r (r.keysO x hx).1) (by omega) fun h' t' d X' c' dn dq lg => kk h' t' d _ ⟨_, _, _, _, _, X', r, .inr ⟨d, rfl, dn, lg⟩⟩ c' dn dq lg (isLog X r)
theorem st_consume (G : Good0 w h₀) (kp : Keep h₀ h) (hroom : A.depth + 1 < recursionLimit) (hh : A.handled = none) (X : St w h₀ h p tv bf nf)
    (kk : ∀ h' t' p' d L, St w h₀ h' p' tv (jn tv) (fun _ => false) → p'.x = p.x → (∀ a ∈ p'.addrs, a ∈ p.addrs ∨ h.objs.size ≤ a) → (∃ e, p'.cv = .ref e ∧ h.objs.size ≤ e) →
      Chg p.addrs h h' → d ∉ p'.addrs → (p.cv = .ref d ∨ h.objs.size ≤ d) → LogAt w h' d L → IsLog L tv bf → Q (.ref d) ⟨h', g, dr, t', os⟩) :
    wpAny (MM w) A (call (.ref 122) [.ref p.x]) Q E ⟨h, g, dr, t, os⟩ := by
  obtain ⟨D, Ol, S, Gs, N, X, r, cv⟩ := X
  have l1 := lenO X r
  exact consume_ok G kp hroom hh X cv (fun x hx => vo_bv r (r.keysO x hx).1) (by omega) fun h' t' p' d X' px ad ⟨e, pc, en, el, le⟩ c' dn dq lg =>
    kk h' t' p' d _ ⟨_, _, _, _, _, X', r.consume, .inr ⟨e, pc, en, le⟩⟩ px ad ⟨e, pc, el⟩ c' dn dq lg (isLog X r)
end
end
end Mine
namespace Mine
noncomputable section
section
variable {w : World} {A : Around} {env : Env} {R : Result → Shared → Prop} {s : Shared} {it : Value} {target : PySem.Expr} {body orelse : List Stmt}
/-- one turn of a for loop -/
theorem f_none (h : wpAny (MM w) A (pyNext it) (fun r s₁ => r = none ∧ wpAny (MM w) A (execs orelse env) (fun f s₃ => R (.ok f) s₃) (fun _ _ => False) s₁) (fun _ _ => False) s) :
    codeAny (MM w) A (.forLoop target it body orelse env) R s := by
  refine codeAny_of_tree ?_
  show wpAny _ A ((forTurn target it body orelse env).onRaise (fun x => do noteFrame x env; theTreesLotGoes x)) _ _ s
  refine wpAny_noted ?_
  simp only [forTurn]
  refine wpAny_bind (wpAny_standAt (wpAny_bind (wpAny_onRaise (wpAny_mono h (fun r s₁ h₁ => ?_) fun _ _ h' => h'.elim))))
  obtain ⟨rfl, h₁⟩ := h₁
  exact wpAny_pure ⟨rfl, codeAny_block (wpAny_mono h₁ (fun _ _ z => z) fun _ _ z => z.elim)⟩
theorem f_some (h : wpAny (MM w) A (pyNext it) (fun r s₁ => ∃ v, r = some v ∧ wpAny (MM w) A (letOwnedTupleGo target it v) (fun _ s₂ => wpAny (MM w) A (assign target env v) (fun _ s₃ => wpAny (MM w) A (execs body env) (fun f s₄ => match f with
      | .next | .cont => codeAny (MM w) A (.forLoop target it body orelse env) R s₄
      | .brk => R (.ok .next) s₄
      | .ret v => R (.ok (.ret v)) s₄) (fun _ _ => False) s₃) (fun _ _ => False) s₂) (fun _ _ => False) s₁) (fun _ _ => False) s) :
    codeAny (MM w) A (.forLoop target it body orelse env) R s := by
  refine codeAny_of_tree ?_
  show wpAny _ A ((forTurn target it body orelse env).onRaise (fun x => do noteFrame x env; theTreesLotGoes x)) _ _ s
  refine wpAny_noted ?_
  simp only [forTurn]
  refine wpAny_bind (wpAny_standAt (wpAny_bind (wpAny_onRaise (wpAny_mono h (fun r s₁ h₁ => ?_) fun _ _ h' => h'.elim))))
  obtain ⟨v, rfl, h₁⟩ := h₁
  refine wpAny_bind (wpAny_mono h₁ (fun _ s₂ h₂ => wpAny_bind (wpAny_mono h₂ (fun _ s₃ h₃ => wpAny_bind (wpAny_mono h₃ (fun f s₄ h₄ => ?_) fun _ _ z => z.elim)) fun _ _ z => z.elim)) fun _ _ z => z.elim)
  cases f with
  | next => exact wpAny_pure ⟨rfl, h₄⟩
  | cont => exact wpAny_pure ⟨rfl, h₄⟩
  | brk => exact wpAny_pure h₄
  | ret v => exact wpAny_pure h₄
end
/-- what a dict of wishes tells -/
noncomputable def tvE (es : List (Int × Option Bool)) : Int → Option (Option Bool) := fun k => (es.find? fun x => ab x.1 == k).map fun x => x.2.map fun b => if x.1 = k then b else !b
theorem tvE_nil : tvE [] = fun _ => none := rfl
theorem tvE_snoc {es : List (Int × Option Bool)} {x : Int × Option Bool} (h : ab x.1 ∉ es.map fun y => ab y.1) : tvE (es ++ [x]) = upd (tvE es) (ab x.1) (some (x.2.map fun b => if x.1 = ab x.1 then b else !b)) := by
  funext k
  unfold tvE
  rw [List.find?_append]
  by_cases q : k = ab x.1
  · subst q
    rw [upd_self]
    have : es.find? (fun y => ab y.1 == ab x.1) = none := by
      rw [List.find?_eq_none]
      intro y hy e
      exact h (List.mem_map.mpr ⟨y, hy, by simpa using e⟩)
    rw [this]
    simp
  · rw [upd_ne _ _ q]
    have : (ab x.1 == k) = false := by rw [beq_eq_false_iff_ne]; exact Ne.symm q
    rw [show List.find? (fun y => ab y.1 == k) [x] = none by rw [List.find?_cons, this]; rfl, Option.or_none]
theorem tvE_none {es : List (Int × Option Bool)} {k : Int} (h : k ∉ es.map fun y => ab y.1) : tvE es k = none := by
  unfold tvE
  rw [Option.map_eq_none_iff, List.find?_eq_none]
  intro y hy e
  exact h (List.mem_map.mpr ⟨y, hy, by simpa using e⟩)
theorem ab_or (k : Int) : k = ab k ∨ k = -ab k := by unfold ab; split <;> omega
section
variable {w : World} {A : Around} {h₀ h : Heap} {g : Array GenState} {dr : Drawn} {t : Nat} {os : OsState} {L I a : Addr} {R : Result → Shared → Prop} {p : Ptr} {es : List (Int × Option Bool)} {ep : Nat} {hr : Heap}
theorem init_loop {p1 p2 p3 p4 p5 p6 p7 p8 : Pos} {k1 : Nat} (G : Good0 w h₀) (hh : A.handled = none) (hroom : A.depth + 2 < recursionLimit) (kr : Keep h₀ hr) (hk3 : ∀ y ∈ es, ab y.1 ∈ K3) (hnd : (es.map fun y => ab y.1).Nodup)
    (fI : hr.objs.size ≤ I) (fL : hr.objs.size ≤ L) (fp : ∀ b ∈ p.addrs, hr.objs.size ≤ b) (nI : I ∉ p.addrs) (nL : L ∉ p.addrs) (na : a ∉ p.addrs) (IL : I ≠ L) (aL : a ≠ L) (aI : a ≠ I)
    (kk : ∀ h' t' p', p'.x = p.x → p'.addrs = p.addrs → p'.cv = .none → St w h₀ h' p' (tvE es) (fun _ => none) (fun k => (tvE es k).isSome) → Keep hr h' → R (.ok .next) ⟨h', g, dr, t', os⟩) :
    ∀ (n i : Nat) (h : Heap) (t : Nat) (m : Str → Option Value) (p' : Ptr) (ok ov : Value), i + n = es.length → p'.x = p.x → p'.addrs = p.addrs → p'.cv = .none → m "self" = some (.ref p.x) →
      St w h₀ h p' (tvE (es.take i)) (fun _ => none) (fun k => (tvE (es.take i) k).isSome) → Fm h₀ L h h m → Keep hr h → IsItemIter h I a i (bvs es).length ep ok ov → h.DictAt (IK w) a (bvs es) ep →
      codeAny (MM w) A (.forLoop (.Tuple [.Name "k" p1, .Name "v" p2] k1 p3) (.ref I) [.Assign [.Subscript (.Name "self" p4) (.Name "k" p5) p6] (.Name "v" p7) p8] [] (envA (ob29 w).1 29 L)) R ⟨h, g, dr, t, os⟩ := by
  have hp : (Env.scope (envA (ob29 w).1 29 L)).kind = .function := rfl
  intro n
  induction n with
  | zero =>
    intro i h t m p' ok ov hi e1 e2 e3 e4 X fm kp hit hda
    have : i = es.length := by omega
    subst this
    rw [List.take_length] at X
    refine f_none (wpAny_pyNext_items_end (knd := IK w) (s := ⟨h, g, dr, t, os⟩) hh hit hda (by simp) fun h₁ x₁ => ⟨rfl, wpAny_execs_nil ?_⟩)
    refine kk h₁ t p' e1 e2 e3 (X.chg (l := [I]) (fun b o n e => x₁ b o (by simpa using n) e) (fun b hb u v e => by rw [List.mem_singleton] at hb; subst hb; exact ne_cls e hit rfl rfl (by decide) rfl) (fun b hb => by rw [List.mem_singleton]; rintro rfl; exact nI (e2 ▸ hb)) (fun d q => by rw [e3] at q; cases q)) ?_
    exact fun b o e => x₁ b o (Nat.ne_of_lt (Nat.lt_of_lt_of_le (Heap.lt_size e) fI)) (kp b o e)
  | succ n ih =>
    intro i h t m p' ok ov hi e1 e2 e3 e4 X fm kp hit hda
    have hlt : i < es.length := by omega
    obtain ⟨y, hy⟩ : ∃ y, es[i]? = some y := ⟨_, List.getElem?_eq_getElem hlt⟩
    have hym : y ∈ es := List.mem_of_getElem? hy
    have hy' : (bvs es)[i]? = some (y.1, bv y.2) := by rw [List.getElem?_map, hy]; rfl
    have htk : es.take (i + 1) = es.take i ++ [y] := by rw [List.take_add_one, hy]; rfl
    have hnew : ab y.1 ∉ (es.take i).map fun y => ab y.1 := by
      have : ((es.take (i + 1)).map fun y => ab y.1).Nodup := hnd.sublist ((List.take_sublist _ _).map _)
      rw [htk, List.map_append] at this
      exact fun q => (List.nodup_append.mp this).2.2 _ q _ (by simp) rfl
    have tv0 := tvE_none hnew
    have hIh : I < h.objs.size := Heap.lt_size hit
    refine f_some (wpAny_pyNext_items_item (knd := IK w) (s := ⟨h, g, dr, t, os⟩) hit hda hy' fun key h₁ hkey heo ht₁ hz₁ k₁ => ⟨_, rfl, ?_⟩)
    obtain ⟨tk, rfl⟩ := Value.isInt_shape hkey
    refine wpAny_letOwnedTupleGo_items (s := ⟨h₁, g, dr, t, os⟩) heo fun h₂ he₂ s₂ => ?_
    replace s₂ : Heap.SameBut I h₁ h₂ := s₂
    have ht₂ : h₂.IsTuple h.objs.size #[.int y.1 tk, bv y.2] := ⟨_, (s₂.2 _ (Nat.ne_of_gt hIh)).trans ht₁, rfl, _, rfl⟩
    have hz₂ : h₂.objs.size = h.objs.size + 1 := s₂.1.trans hz₁
    refine wpAny_assign_Tuple hh ht₂ rfl rfl fun h₃ x₃ => ?_
    replace x₃ : Heap.ExtBut h₂.objs.size h₂ h₃ := x₃
    have up₃ : ∀ b o, b ≠ I → h.get? b = some o → h₃.get? b = some o := fun b o hb e => x₃ b o (by rw [hz₂]; exact Nat.ne_of_lt (Nat.lt_succ_of_lt (Heap.lt_size e))) (s₂.extBut b o hb (k₁ b o hb e))
    have hit₃ : IsItemIter h₃ I a (i + 1) (bvs es).length ep (.int y.1 tk) (bv y.2) := x₃ _ _ (by rw [hz₂]; exact Nat.ne_of_lt (Nat.lt_succ_of_lt hIh)) he₂
    have c₃ : Chg [I] h h₃ := fun b o n e => up₃ b o (by simpa using n) e
    have lI : h₀.get? I = none := low_size kr fI
    have fm₃ : Fm h₀ L h₃ h₃ m := fm.chg c₃ (by simpa using Ne.symm IL) (fun b hb => by rw [List.mem_singleton] at hb; subst hb; exact lI)
    show wpAny _ _ (do holding [bv y.2] (assign (.Name "k" p1) (envA (ob29 w).1 29 L) (.int y.1 tk)); do holding [] (assign (.Name "v" p2) (envA (ob29 w).1 29 L) (bv y.2)); pure ()) _ _ _
    refine wpAny_bind (wpAny_holding (wpAny_assign_Name (m_store fm₃ rfl rfl fun h₄ t₄ fm₄ => ?_)))
    refine wpAny_bind (wpAny_holding (wpAny_assign_Name (m_store fm₄ rfl rfl fun h₅ t₅ fm₅ => wpAny_pure ?_)))
    have c₅ : Chg [L] h₃ h₅ := fun b o n e => fm₅.ext b o (by simpa using n) e
    have tupI : ∀ b ∈ [I], ∀ u v, h.get? b ≠ some (tup2 u v) := fun b hb u v e => by rw [List.mem_singleton] at hb; subst hb; exact ne_cls e hit rfl rfl (by decide) rfl
    have tupL : ∀ b ∈ [L], ∀ u v, h₃.get? b ≠ some (tup2 u v) := fun b hb u v e => by
      rw [List.mem_singleton] at hb; subst hb
      obtain ⟨_, _, _, ho, hd, _⟩ := fm₃.ns
      rw [ho] at e; cases e; cases hd
    have X₅ := (X.chg c₃ tupI (fun b hb => by rw [List.mem_singleton]; rintro rfl; exact nI (e2 ▸ hb)) (fun d q => by rw [e3] at q; cases q)).chg c₅ tupL (fun b hb => by rw [List.mem_singleton]; rintro rfl; exact nL (e2 ▸ hb)) (fun d q => by rw [e3] at q; cases q)
    have k₅ : Keep hr h₅ := fun b o e => c₅ b o (by rw [List.mem_singleton]; exact Nat.ne_of_lt (Nat.lt_of_lt_of_le (Heap.lt_size e) fL)) (up₃ b o (Nat.ne_of_lt (Nat.lt_of_lt_of_le (Heap.lt_size e) fI)) (kp b o e))
    have hit₅ : IsItemIter h₅ I a (i + 1) (bvs es).length ep (.int y.1 tk) (bv y.2) := c₅ _ _ (by simpa using IL) hit₃
    have hda₅ : h₅.DictAt (IK w) a (bvs es) ep := hda.at fun o e => c₅ _ o (by simpa using aL) (up₃ _ o aI e)
    have fm₅' := fm₅.here
    -- what follows once the wish is set
    have fin : ∀ h₆ t₆ p₆, p₆.x = p.x → p₆.addrs = p.addrs → p₆.cv = .none → St w h₀ h₆ p₆ (tvE (es.take (i + 1))) (fun _ => none) (fun k => (tvE (es.take (i + 1)) k).isSome) → Chg p.addrs h₅ h₆ →
        codeAny (MM w) A (.forLoop (.Tuple [.Name "k" p1, .Name "v" p2] k1 p3) (.ref I) [.Assign [.Subscript (.Name "self" p4) (.Name "k" p5) p6] (.Name "v" p7) p8] [] (envA (ob29 w).1 29 L)) R ⟨h₆, g, dr, t₆, os⟩ := by
      intro h₆ t₆ p₆ q1 q2 q3 X₆ c₆
      refine ih (i + 1) h₆ t₆ _ p₆ _ _ (by omega) q1 q2 q3 (by exact e4) X₆ (fm₅'.chg c₆ nL fun b hb => low_size kr (fp b hb)) (fun b o e => c₆ b o (fun q => Nat.not_lt.mpr (fp b q) (Heap.lt_size e)) (k₅ b o e)) (c₆ _ _ nI hit₅) (hda₅.at fun o e => c₆ _ o na e)
    have kb : Keep h₀ h₅ := fm₅.base
    have nfe : ∀ v : Option Bool, (fun j => (tvE (es.take i) j).isSome || (!(tvE (es.take i) (ab y.1)).isSome && j == ab y.1)) = fun k => (upd (tvE (es.take i)) (ab y.1) (some v) k).isSome := fun v => by
      funext j
      rw [tv0]
      by_cases q : j = ab y.1
      · subst q; rw [upd_self]; simp
      · rw [upd_ne _ _ q]; simp [q]
    obtain ⟨D, Ol, S, Gs, N, X5, r5, cv5⟩ := id X₅
    cases hv : y.2 with
    | none =>
      refine wpAny_execs_cons (wpAny_Assign_Subscript (n_loc fm₅' ?_ (v := bv y.2)))
      refine n_loc fm₅' (v := .ref p.x) (n_loc fm₅' (v := .int y.1 tk) ?_) e4
      rw [hv, ← e1]
      refine o_set (G.X.keeps kb) X5.inst X5.att.ns (st_setn (k := ab y.1) G kb hroom X₅ (hk3 y hym) (by rcases ab_or y.1 with q | q; exact .inl q; exact .inr ⟨q, by rw [tv0]; rfl⟩) fun h₆ t₆ p₆ q1 q2 q3 X₆ c₆ => ?_)
      refine wpAny_execs_nil (fin h₆ t₆ p₆ (q1.trans e1) (q2.trans e2) (q3.elim (fun z => z.trans e3) id) ?_ (e2 ▸ c₆))
      rw [htk, tvE_snoc hnew, hv, ← nfe]
      exact X₆
    | some b =>
      refine wpAny_execs_cons (wpAny_Assign_Subscript (n_loc fm₅' ?_ (v := bv y.2)))
      refine n_loc fm₅' (v := .ref p.x) (n_loc fm₅' (v := .int y.1 tk) ?_) e4
      rw [hv, ← e1]
      refine o_set (G.X.keeps kb) X5.inst X5.att.ns (st_setb (k := ab y.1) G kb (by omega) X₅ (hk3 y hym) (ab_or y.1) fun h₆ t₆ X₆ c₆ => ?_)
      refine wpAny_execs_nil (fin h₆ t₆ { p' with cv := .none } e1 e2 rfl ?_ (e2 ▸ c₆))
      rw [htk, tvE_snoc hnew, hv, ← nfe]
      exact X₆
variable {E : Value → Shared → Prop} {Q : Value → Shared → Prop}
/-- the class is called -/
theorem make_ok {rest : List Value} (G : Good0 w h₀) (kp : Keep h₀ h)
    (hq : codeAny (MM w) (A.under (.builtin "type.__call__" ⟨.ref 170 :: rest, []⟩)) (.call (.ref 29) ⟨.ref (h.objs.size + 1) :: rest, []⟩) (fun r s' => r = .ok (.ret .none) ∧ Q (.ref (h.objs.size + 1)) s') ⟨(h.push emptyDict).push (instObj 170 h.objs.size), g, dr, t, os⟩) :
    wpAny (MM w) A (call (.ref 170) rest) Q E ⟨h, g, dr, t, os⟩ := by
  have X := (G.keep kp).X
  refine wpAny_call (make_core (makes_of X (init_makes w)) (looks_findIn X (f_init w)) (fun self => bind_fn X self (by kernel_rfl)) (.inl rfl) (codeAny_mono hq fun r s' q => ?_))
  obtain ⟨rfl, q⟩ := q
  exact ⟨rfl, q⟩
theorem empty_nsz (h : Heap) (o : Obj) : Nsz ((h.push emptyDict).push o) h.objs.size (fun _ => none) 0 :=
  ⟨emptyDict, #[], 0, Heap.get?_push_of_some _ (Heap.get?_push_size _ rfl), rfl, fun e he => by simp at he, fun _ => rfl, Nat.le_refl _⟩
/-- the body of __init__, once the dict of wishes is found -/
theorem init_body {m : Str → Option Value} {h₁ : Heap} {t₁ : Nat} {v : Value} (G : Good0 w h₀) (kp : Keep h₀ h) (hh : A.handled = none) (hroom : A.depth + 2 < recursionLimit) (hk3 : ∀ y ∈ es, ab y.1 ∈ K3) (hnd : (es.map fun y => ab y.1).Nodup)
    (hs : m "self" = some (.ref (h.objs.size + 1))) (hm : m "assignments" = some v)
    (fm : Fm h₀ (h.objs.size + 2) ((h.push emptyDict).push (instObj 170 h.objs.size)) h₁ m)
    (pick : (v = .none ∧ es = []) ∨ (∃ a, v = .ref a ∧ h.DictOf (IK w) a (bvs es) ∧ (a == sysModules) = false))
    (kk : ∀ h' t' p, p.x = h.objs.size + 1 → St w h₀ h' p (tvE es) (fun _ => none) (fun k => (tvE es k).isSome) → p.cv = .none → (∀ b ∈ p.addrs, h.objs.size ≤ b) → Keep h h' → R (.ok (.ret .none)) ⟨h', g, dr, t', os⟩) :
    wpAny (MM w) A (execs (bdOf (fdOf (ob29 w).1)) (envA (ob29 w).1 29 (h.objs.size + 2))) (fun fl s' => R (.ok (.ret (match fl with | .ret v => v | _ => .none))) s') (fun _ _ => False) ⟨h₁, g, dr, t₁, os⟩ := by
  have z2 : ((h.push emptyDict).push (instObj 170 h.objs.size)).objs.size = h.objs.size + 2 := by rw [Heap.size_push, Heap.size_push]
  have kx : Keep ((h.push emptyDict).push (instObj 170 h.objs.size)) h₁ := fm.out (by rw [z2]; exact Nat.le_refl _)
  have k0 : Keep h ((h.push emptyDict).push (instObj 170 h.objs.size)) := fun b o e => Heap.get?_push_of_some _ (Heap.get?_push_of_some _ e)
  have hx : ((h.push emptyDict).push (instObj 170 h.objs.size)).get? (h.objs.size + 1) = some (instObj 170 h.objs.size) := by
    have := Heap.get?_push_size (h.push emptyDict) (o := instObj 170 h.objs.size) rfl
    rwa [Heap.size_push] at this
  have w1 : h.objs.size + 1 ≠ h.objs.size := Nat.succ_ne_self _
  have w2 : h.objs.size + 1 ≠ h.objs.size + 2 := by omega
  have w3 : h.objs.size ≠ h.objs.size + 2 := by omega
  refine init_six G fm hs (kx _ _ hx) ((empty_nsz h _).at fun o e => kx _ o e) w1 w2 w3 (low_size kp (Nat.le_succ _)) (low_size kp (Nat.le_refl _)) (G.sys kp (Nat.le_succ _)) (G.sys kp (Nat.le_refl _)) ?_
  intro h₂ t₂ p px pd pc X₂ fm₂ c₂ pa
  have k₂ : Keep h h₂ := fun b o e => c₂ b o (by rw [List.mem_singleton]; exact Nat.ne_of_lt (Heap.lt_size e)) (kx b o (k0 b o e))
  have hlt : h.objs.size + 2 < h₁.objs.size := fm.ns.lt
  have pa' : ∀ b ∈ p.addrs, h.objs.size ≤ b := fun b hb => by
    rcases pa b hb with e | e | e
    · rw [e]; exact Nat.le_succ _
    · rw [e]; exact Nat.le_refl _
    · exact Nat.le_trans (Nat.le_trans (Nat.le_add_right _ 2) (Nat.le_of_lt hlt)) e
  have nL : h.objs.size + 2 ∉ p.addrs := fun q => by
    rcases pa _ q with e | e | e
    · exact w2 e.symm
    · exact w3 e.symm
    · exact Nat.not_le.mpr hlt e
  -- the rounds, once a dict stands
  have go : ∀ h₃ t₃ a, Keep h h₃ → AS w h₀ h₃ p [] (bvs []) (fun _ => false) (fun _ => false) (fun _ => false) → Fm h₀ (h.objs.size + 2) h₃ h₃ m → h₃.DictOf (IK w) a (bvs es) → (a == sysModules) = false → a ∉ p.addrs → a ≠ h.objs.size + 2 →
      wpAny (MM w) A (call (.builtin "dict.items") [.ref a]) (fun x s₁ => wpAny (MM w) A (pyIter x) (fun it s₂ => ∃ I ep ok ov h₄ t₄, it = .ref I ∧ s₂ = ⟨h₄, g, dr, t₄, os⟩ ∧ Keep h₃ h₄ ∧ h₃.objs.size ≤ I ∧ IsItemIter h₄ I a 0 (bvs es).length ep ok ov ∧ h₄.DictAt (IK w) a (bvs es) ep) (fun _ _ => False) s₁) (fun _ _ => False) ⟨h₃, g, dr, t₃, os⟩ := by
    intro h₃ t₃ a k₃ X₃ fm₃ da sa na aL
    refine n_items da sa ?_
    generalize hH2 : h₃.push { cls := .type "dict_items", data := .fields #[.ref a] } = h₄
    have k₄ : Keep h₃ h₄ := fun b o e => hH2 ▸ Heap.get?_push_of_some _ e
    obtain ⟨ep, ha₄⟩ := DictOf_ep (DictOf_at da fun o e => k₄ _ o e)
    refine wpAny_pyIter_items (knd := IK w) (s := ⟨h₄, g, dr, _, os⟩) (d := a) (kvs := bvs es) (ep := ep) ⟨_, hH2 ▸ Heap.get?_push_size _ rfl, rfl, rfl⟩ ha₄ ?_
    have z₄ : h₄.objs.size = h₃.objs.size + 1 := by rw [← hH2, Heap.size_push]
    exact ⟨h₄.objs.size, ep, .none, .none, _, _, rfl, rfl, fun b o e => Heap.get?_push_of_some _ (k₄ b o e), by rw [z₄]; exact Nat.le_succ _, Heap.get?_push_size _ rfl, ha₄.at fun o e => Heap.get?_push_of_some _ e⟩
  have rounds : ∀ h₃ t₃ a, Keep h h₃ → AS w h₀ h₃ p [] (bvs []) (fun _ => false) (fun _ => false) (fun _ => false) → Fm h₀ (h.objs.size + 2) h₃ h₃ m → h₃.DictOf (IK w) a (bvs es) → (a == sysModules) = false → a ∉ p.addrs → a ≠ h.objs.size + 2 →
      wpAny (MM w) A (call (.builtin "dict.items") [.ref a]) (fun x s₁ => wpAny (MM w) A (pyIter x) (fun it s₂ => ∀ (p1 p2 p3 p4 p5 p6 p7 p8 : Pos) (k1 : Nat) (R' : Result → Shared → Prop),
        (∀ h' t' p', p'.x = p.x → p'.addrs = p.addrs → p'.cv = .none → St w h₀ h' p' (tvE es) (fun _ => none) (fun k => (tvE es k).isSome) → Keep h h' → R' (.ok .next) ⟨h', g, dr, t', os⟩) →
        codeAny (MM w) A (.forLoop (.Tuple [.Name "k" p1, .Name "v" p2] k1 p3) it [.Assign [.Subscript (.Name "self" p4) (.Name "k" p5) p6] (.Name "v" p7) p8] [] (envA (ob29 w).1 29 (h.objs.size + 2))) R' s₂) (fun _ _ => False) s₁) (fun _ _ => False) ⟨h₃, g, dr, t₃, os⟩ := by
    intro h₃ t₃ a k₃ X₃ fm₃ da sa na aL
    refine wpAny_mono (go h₃ t₃ a k₃ X₃ fm₃ da sa na aL) (fun x s₁ q => wpAny_mono q (fun it s₂ q => ?_) fun _ _ z => z) fun _ _ z => z
    obtain ⟨I, ep, ok, ov, h₄, t₄, rfl, rfl, k₄, fI, hit, hda⟩ := q
    intro p1 p2 p3 p4 p5 p6 p7 p8 k1 R' kk'
    have fI' : h₃.objs.size ≤ I := fI
    have z3 : h.objs.size + 2 < h₃.objs.size := fm₃.ns.lt
    have nI : I ∉ p.addrs := fun q => Nat.not_lt.mpr fI (X₃.lt _ q)
    have IL : I ≠ h.objs.size + 2 := Nat.ne_of_gt (Nat.lt_of_lt_of_le z3 fI)
    have aI : a ≠ I := Nat.ne_of_lt (Nat.lt_of_lt_of_le (let ⟨_, _, _, ho, _⟩ := da; Heap.lt_size ho) fI)
    refine init_loop (hr := h) (p := p) (es := es) (ep := ep) (a := a) G hh hroom kp hk3 hnd (Nat.le_trans (Nat.le_trans (Nat.le_add_right _ 2) (Nat.le_of_lt z3)) fI) (Nat.le_add_right _ 2) pa' nI nL na IL aL aI kk' es.length 0 h₄ t₄ m p ok ov (by omega) rfl rfl pc (by rw [hs, px]) ?_ ⟨fm₃.ns.keeps k₄, Heap.ExtBut.refl _ _, fm₃.base.trans k₄, fm₃.low⟩ (k₃.trans k₄) hit hda
    exact ⟨_, _, _, _, _, X₃.keep k₄, Rel.zero, .inl pc⟩
  refine wpAny_execs_cons (wpAny_For ?_)
  refine n_bm0 F.plainAttrs_dict F.slot_dict_items F.type_dict_items (BoolOp_or (n_loc fm₂ ?_ hm))
  rcases pick with ⟨rfl, rfl⟩ | ⟨a, rfl, da, sa⟩
  · refine truthy_none ?_
    rw [if_neg (by decide)]
    refine BoolOp_one (wpAny_Dict_empty ?_)
    have d₃ := Heap.DictOf.new (knd := IK w) h₂
    have fm₃ := fm₂.push { cls := .type "dict", data := .dict #[] }
    have k₃ : Keep h₂ (h₂.push { cls := .type "dict", data := .dict #[] }) := fun b o e => Heap.get?_push_of_some _ e
    have na : h₂.objs.size ∉ p.addrs := fun q => Nat.lt_irrefl _ (X₂.lt _ q)
    refine ⟨_, rfl, DictOf_ob d₃, ?_⟩
    refine wpAny_mono (rounds _ _ h₂.objs.size (k₂.trans k₃) (X₂.keep k₃) fm₃.here d₃ (G.sys fm₂.base (Nat.le_refl _)) na (Nat.ne_of_gt fm₂.ns.lt)) (fun x s₁ q => wpAny_mono q (fun it s₂ q => ?_) fun _ _ z => z.elim) fun _ _ z => z.elim
    refine q _ _ _ _ _ _ _ _ _ _ fun h' t' p' q1 q2 q3 X' k' => ?_
    exact wpAny_execs_nil (kk h' t' p' (q1.trans px) X' q3 (fun b hb => pa' b (q2 ▸ hb)) k')
  · have da₂ := DictOf_at da fun o e => k₂ _ o e
    have alt : a < h.objs.size := let ⟨_, _, _, ho, _⟩ := da; Heap.lt_size ho
    have na : a ∉ p.addrs := fun q => Nat.not_lt.mpr (pa' a q) alt
    have aL : a ≠ h.objs.size + 2 := Nat.ne_of_lt (Nat.lt_of_lt_of_le alt (Nat.le_add_right _ 2))
    have hlen : es.length ≤ 3 := by
      have : (es.map fun y => (ab y.1, y.2)).length ≤ K3.length := len_of_keys (ks := K3) (by rw [List.map_map]; exact hnd) fun x hx => by
        obtain ⟨y, hy, rfl⟩ := List.mem_map.mp hx; exact hk3 y hy
      rwa [List.length_map] at this
    refine wpAny_truthy_dict (knd := IK w) (s := ⟨h₂, g, dr, t₂, os⟩) sa da₂ (by rw [List.length_map]; omega) ?_
    cases hes : (bvs es).isEmpty with
    | false =>
      rw [if_pos (by rfl)]
      refine ⟨_, rfl, DictOf_ob da₂, ?_⟩
      refine wpAny_mono (rounds _ _ a k₂ X₂ fm₂ da₂ sa na aL) (fun x s₁ q => wpAny_mono q (fun it s₂ q => ?_) fun _ _ z => z.elim) fun _ _ z => z.elim
      refine q _ _ _ _ _ _ _ _ _ _ fun h' t' p' q1 q2 q3 X' k' => ?_
      exact wpAny_execs_nil (kk h' t' p' (q1.trans px) X' q3 (fun b hb => pa' b (q2 ▸ hb)) k')
    | true =>
      have e0 : es = [] := by simpa [bvs] using hes
      rw [if_neg (by decide)]
      refine BoolOp_one (wpAny_Dict_empty ?_)
      have d₃ := Heap.DictOf.new (knd := IK w) h₂
      have fm₃ := fm₂.push { cls := .type "dict", data := .dict #[] }
      have k₃ : Keep h₂ (h₂.push { cls := .type "dict", data := .dict #[] }) := fun b o e => Heap.get?_push_of_some _ e
      have na : h₂.objs.size ∉ p.addrs := fun q => Nat.lt_irrefl _ (X₂.lt _ q)
      refine ⟨_, rfl, DictOf_ob d₃, ?_⟩
      refine wpAny_mono (rounds _ _ h₂.objs.size (k₂.trans k₃) (X₂.keep k₃) fm₃.here (by rw [e0]; exact d₃) (G.sys fm₂.base (Nat.le_refl _)) na (Nat.ne_of_gt fm₂.ns.lt)) (fun x s₁ q => wpAny_mono q (fun it s₂ q => ?_) fun _ _ z => z.elim) fun _ _ z => z.elim
      refine q _ _ _ _ _ _ _ _ _ _ fun h' t' p' q1 q2 q3 X' k' => ?_
      exact wpAny_execs_nil (kk h' t' p' (q1.trans px) X' q3 (fun b hb => pa' b (q2 ▸ hb)) k')
theorem init0_ok (G : Good0 w h₀) (kp : Keep h₀ h) (hh : A.handled = none) (hroom : A.depth + 5 < recursionLimit)
    (kk : ∀ h' t' p, St w h₀ h' p (fun _ => none) (fun _ => none) (fun _ => false) → p.cv = .none → (∀ b ∈ p.addrs, h.objs.size ≤ b) → Keep h h' → Q (.ref p.x) ⟨h', g, dr, t', os⟩) :
    wpAny (MM w) A (call (.ref 170) []) Q E ⟨h, g, dr, t, os⟩ := by
  have k0 : Keep h ((h.push emptyDict).push (instObj 170 h.objs.size)) := fun b o e => Heap.get?_push_of_some _ (Heap.get?_push_of_some _ e)
  have z2 : ((h.push emptyDict).push (instObj 170 h.objs.size)).objs.size = h.objs.size + 2 := by rw [Heap.size_push, Heap.size_push]
  refine make_ok G kp ?_
  refine m_callR (binds := [("self", .ref (h.objs.size + 1)), ("assignments", .none)]) G (kp.trans k0) (by show A.depth + 1 < _; omega) (fn29 w) (by kernel_rfl) (BindsTo.of_defaults (T := 22) (items := #[.none]) (by kernel_rfl) ((G.keep (kp.trans k0)).X 22 _ rfl) rfl rfl (by kernel_rfl)) (by kernel_rfl) ?_
  rw [z2]
  intro h₁ t₁ fm
  refine wpAny_mono (init_body (es := []) (v := .none) G kp hh (by show A.depth + 1 + 1 + 2 < _; omega) (by simp) (by simp) rfl rfl fm (.inl ⟨rfl, rfl⟩) (R := fun r s' => r = .ok (.ret .none) ∧ Q (.ref (h.objs.size + 1)) s') fun h' t' p px X' pc pa k' => ⟨rfl, ?_⟩) (fun _ _ z => z) fun _ _ z => z.elim
  rw [← px]
  exact kk h' t' p X' pc pa k'
theorem init1_ok (G : Good0 w h₀) (kp : Keep h₀ h) (hh : A.handled = none) (hroom : A.depth + 5 < recursionLimit) (hk3 : ∀ y ∈ es, ab y.1 ∈ K3) (hnd : (es.map fun y => ab y.1).Nodup) (da : h.DictOf (IK w) a (bvs es)) (sa : (a == sysModules) = false)
    (kk : ∀ h' t' p, St w h₀ h' p (tvE es) (fun _ => none) (fun k => (tvE es k).isSome) → p.cv = .none → (∀ b ∈ p.addrs, h.objs.size ≤ b) → Keep h h' → Q (.ref p.x) ⟨h', g, dr, t', os⟩) :
    wpAny (MM w) A (call (.ref 170) [.ref a]) Q E ⟨h, g, dr, t, os⟩ := by
  have k0 : Keep h ((h.push emptyDict).push (instObj 170 h.objs.size)) := fun b o e => Heap.get?_push_of_some _ (Heap.get?_push_of_some _ e)
  have z2 : ((h.push emptyDict).push (instObj 170 h.objs.size)).objs.size = h.objs.size + 2 := by rw [Heap.size_push, Heap.size_push]
  refine make_ok G kp ?_
  refine m_callR (binds := [("self", .ref (h.objs.size + 1)), ("assignments", .ref a)]) G (kp.trans k0) (by show A.depth + 1 < _; omega) (fn29 w) (by kernel_rfl) (BindsTo.of_defaults (T := 22) (items := #[.none]) (by kernel_rfl) ((G.keep (kp.trans k0)).X 22 _ rfl) rfl rfl (by kernel_rfl)) (by kernel_rfl) ?_
  rw [z2]
  intro h₁ t₁ fm
  refine wpAny_mono (init_body (es := es) (v := .ref a) G kp hh (by show A.depth + 1 + 1 + 2 < _; omega) hk3 hnd rfl rfl fm (.inr ⟨a, rfl, da, sa⟩) (R := fun r s' => r = .ok (.ret .none) ∧ Q (.ref (h.objs.size + 1)) s') fun h' t' p px X' pc pa k' => ⟨rfl, ?_⟩) (fun _ _ z => z) fun _ _ z => z.elim
  rw [← px]
  exact kk h' t' p X' pc pa k'
end
end
end Mine
namespace Mine
noncomputable section
theorem g_cls (w : World) : nsIn (KK w) mainGlobals "AssignmentSet" = some (some (.ref 170)) := by kernel_rfl
section
variable {w : World} {A : Around} {E : Value → Shared → Prop} {h₀ h hb : Heap} {L : Addr} {m : Str → Option Value} {g : Array GenState} {dr : Drawn} {t : Nat} {os : OsState} {p : Ptr} {tv : Int → Option (Option Bool)} {bf : Int → Option Bool} {nf : Int → Bool} {Q : Value → Shared → Prop} {env : Env}
/-- NAME(), a function or a class of the program -/
theorem n_call0 {x : Str} {np pos : Pos} {f : Addr} (G : Good0 w h₀) (fm : Fm h₀ L hb h m) (hv : nsIn (KK w) mainGlobals x = some (some (.ref f))) (hkp : keepIn (KK w) (.ref f) = true)
    (k : wpAny (MM w) A (call (.ref f) []) Q E ⟨h, g, dr, t, os⟩) (hk : env.scope.kind = .function := by rfl) (hg : env.globals = mainGlobals := by rfl) (hx : env.kindOf x = some .globalImplicit := by rfl)
    (hd : (x == ("__debug__" : Str)) = false := by decide)
    (he : eval (.Call (.Name x np) [] [] pos) env = (do callWith pos (← eval (.Name x np) env) [] (backTo pos (starEach [] env)) (backToKw pos (keywordEach [] env))) := by rfl) :
    wpAny (MM w) A (eval (.Call (.Name x np) [] [] pos) env) Q E ⟨h, g, dr, t, os⟩ :=
  Call_ (m_glob G fm hv hk hg hx (callWith_K0 (G.X.keeps fm.base) hkp k) hd) he
/-- NAME(e) -/
theorem n_call1 {x : Str} {np pos : Pos} {e : Expr} {f : Addr} (G : Good0 w h₀) (fm : Fm h₀ L hb h m) (hv : nsIn (KK w) mainGlobals x = some (some (.ref f))) (hkp : keepIn (KK w) (.ref f) = true)
    (k : wpAny (MM w) A (eval e env) (fun v s₁ => Keep h₀ s₁.heap ∧ wpAny (MM w) A (call (.ref f) [v]) Q E s₁) E ⟨h, g, dr, t, os⟩) (hk : env.scope.kind = .function := by rfl) (hg : env.globals = mainGlobals := by rfl) (hx : env.kindOf x = some .globalImplicit := by rfl)
    (hd : (x == ("__debug__" : Str)) = false := by decide) (hs : starEach [e] env = (false, eval e env) :: starEach [] env := by rfl)
    (he : eval (.Call (.Name x np) [e] [] pos) env = (do callWith pos (← eval (.Name x np) env) [] (backTo pos (starEach [e] env)) (backToKw pos (keywordEach [] env))) := by rfl) :
    wpAny (MM w) A (eval (.Call (.Name x np) [e] [] pos) env) Q E ⟨h, g, dr, t, os⟩ :=
  Call_ (m_glob G fm hv hk hg hx (callWith_K G.X hkp (args_cons (wpAny_mono k (fun v s₁ q => args_nil ⟨G.X.keeps q.1, q.2⟩) fun _ _ z => z) hs) hs) hd) he
/-- NAME(e, f) -/
theorem n_call2 {x : Str} {np pos : Pos} {e e' : Expr} {f : Addr} (G : Good0 w h₀) (fm : Fm h₀ L hb h m) (hv : nsIn (KK w) mainGlobals x = some (some (.ref f))) (hkp : keepIn (KK w) (.ref f) = true)
    (k : wpAny (MM w) A (eval e env) (fun v s₁ => wpAny (MM w) A (eval e' env) (fun v' s₂ => Keep h₀ s₂.heap ∧ wpAny (MM w) A (call (.ref f) [v, v']) Q E s₂) E s₁) E ⟨h, g, dr, t, os⟩) (hk : env.scope.kind = .function := by rfl) (hg : env.globals = mainGlobals := by rfl) (hx : env.kindOf x = some .globalImplicit := by rfl)
    (hd : (x == ("__debug__" : Str)) = false := by decide) (hs : starEach [e, e'] env = (false, eval e env) :: starEach [e'] env := by rfl) (hs' : starEach [e'] env = (false, eval e' env) :: starEach [] env := by rfl) (hp : (backTo pos (starEach [e'] env)).any (·.1) = false := by rfl)
    (he : eval (.Call (.Name x np) [e, e'] [] pos) env = (do callWith pos (← eval (.Name x np) env) [] (backTo pos (starEach [e, e'] env)) (backToKw pos (keywordEach [] env))) := by rfl) :
    wpAny (MM w) A (eval (.Call (.Name x np) [e, e'] [] pos) env) Q E ⟨h, g, dr, t, os⟩ :=
  Call_ (m_glob G fm hv hk hg hx (callWith_K G.X hkp (args_cons (wpAny_mono k (fun v s₁ q => args_cons (wpAny_mono q (fun v' s₂ q => args_nil ⟨G.X.keeps q.1, q.2⟩) fun _ _ z => z) hs') fun _ _ z => z) hs) hs hp) hd) he
theorem n_dcopy {a : Addr} {kvs : List (Int × Value)} (hd : h.DictOf (IK w) a kvs) (hs : (a == sysModules) = false) (hz : kvs.length < 1000) (kk : ∀ h', h'.DictOf (IK w) h.objs.size kvs → Keep h h' → Q (.ref h.objs.size) ⟨h', g, dr, t, os⟩) :
    wpAny (MM w) A (call (.builtin "dict.copy") [.ref a]) Q E ⟨h, g, dr, t, os⟩ :=
  call_meetsIn (s := ⟨h, g, dr, t, os⟩) F.slot_dict_copy hd.typeIs F.entry_dict_copy (F.args_dict_copy_1 _) (meets_dict_copy (IK w) a hs) ⟨kvs, hd, by rw [sizeLine_eq]; omega, fun h' a b c => kk h' a c⟩
theorem copy_ok (G : Good0 w h₀) (kp : Keep h₀ h) (hh : A.handled = none) (hroom : A.depth + 6 < recursionLimit) (X : St w h₀ h p tv bf nf)
    (kk : ∀ h' t' p', St w h₀ h' p' tv bf nf → p'.cv = .none → (∀ b ∈ p'.addrs, h.objs.size ≤ b) → Keep h h' → Q (.ref p'.x) ⟨h', g, dr, t', os⟩) :
    wpAny (MM w) A (call (.ref 129) [.ref p.x]) Q E ⟨h, g, dr, t, os⟩ := by
  obtain ⟨D, Ol, S, Gs, N, X, r, cv⟩ := X
  have lO := lenO X r
  have lD := lenD X r
  refine m_call (binds := [("self", .ref p.x)]) G kp (by omega) (fn129 w) (by kernel_rfl) (BindsTo.of_eq (by kernel_rfl)) (by kernel_rfl) ?_
  intro h₁ t₁ fm
  have X₁ := X.ext fm.ext X.fresh
  have k₁ : Keep h h₁ := fm.out (Nat.le_refl _)
  have hL : h.objs.size < h₁.objs.size := fm.ns.lt
  refine wpAny_execs_cons (wpAny_Assign_Name (n_call0 G fm (g_cls w) (by kernel_rfl) (init0_ok G fm.base hh (by show A.depth + 1 + 5 < _; omega) fun h₂ t₂ q Y₂ qc qa k₂ => ?_)))
  obtain ⟨D', Ol', S', Gs', N', Y₂, -, -⟩ := Y₂
  have fm₂ := fm.keep k₂
  refine m_store fm₂.here rfl rfl fun h₃ t₃ fm₃ => ?_
  have qa' : ∀ b ∈ q.addrs, h.objs.size < b := fun b hb => Nat.lt_of_lt_of_le hL (qa b hb)
  have nLq : h.objs.size ∉ q.addrs := fun e => Nat.lt_irrefl _ (qa' _ e)
  have X₃ := (X₁.keep k₂).ext fm₃.ext X.fresh
  have Y₃ := Y₂.ext fm₃.ext nLq
  have dq : q.d ∈ q.addrs := by simp
  have k₃ : Keep h h₃ := fun b o e => fm₃.ext b o (Nat.ne_of_lt (Heap.lt_size e)) (k₂ b o (k₁ b o e))
  have qdL : q.d ≠ h.objs.size := Nat.ne_of_gt (qa' _ dq)
  have nqd : ∀ b ∈ p.addrs, b ≠ q.d := fun b hb => Nat.ne_of_lt (Nat.lt_trans (X.lt b hb) (qa' _ dq))
  replace fm₃ := fm₃.here
  -- _data
  refine wpAny_execs_cons (plainObj_wpAny_Assign_Attribute (n_bm0 F.plainAttrs_dict F.slot_dict_copy F.type_dict_copy (n_att G fm₃ X₃ (a_data w) fun t' => ⟨_, rfl, DictOf_ob X₃.data, n_dcopy X₃.data (X.sys _ (by simp)) (by omega) fun h₄ d₄ k₄ => ?_⟩)))
  have e₄ : Keep h₃ h₄ := k₄
  have fm₄ := fm₃.keep e₄
  have X₄ := X₃.keep e₄
  have Y₄ := Y₃.keep e₄
  refine n_loc fm₄ (v := .ref q.x) ?_
  refine m_setattr (h := h₄) (G.X.keeps fm₄.base) Y₄.inst Y₄.att (by decide) (a_data w) fun h₅ t₅ n₅ s₅ => ?_
  have fr₃ : h₃.objs.size ∉ Ptr.addrs q := fun e => Nat.lt_irrefl _ (Y₃.lt _ e)
  have fd₃ : h₃.objs.size ≠ q.d := fun e => fr₃ (by rw [e]; simp)
  have Y₅ := Y₄.put_data s₅ n₅ (DictOf_at d₄ fun o e => (s₅.2 _ fd₃).trans e) fr₃ (low_size fm₃.base (Nat.le_refl _)) (G.sys fm₃.base (Nat.le_refl _))
  have X₅ : AS w h₀ h₅ p D (bvs Ol) S Gs N := X₄.of fun a ha o e => (s₅.2 a (nqd a ha)).trans e
  have fm₅ := fm₄.turn s₅ qdL (Y₂.low _ dq)
  have k₅ : Keep h h₅ := fun b o e => (s₅.2 b (Nat.ne_of_lt (Nat.lt_trans (Heap.lt_size e) (qa' _ dq)))).trans (e₄ b o (k₃ b o e))
  have z₃ : h.objs.size ≤ h₃.objs.size := Nat.le_of_lt fm₃.ns.lt
  -- _orig
  refine wpAny_execs_cons (plainObj_wpAny_Assign_Attribute (n_bm0 F.plainAttrs_dict F.slot_dict_copy F.type_dict_copy (n_att G fm₅ X₅ (a_orig w) fun t' => ⟨_, rfl, DictOf_ob X₅.orig, n_dcopy X₅.orig (X.sys _ (by simp)) (by rw [List.length_map]; omega) fun h₆ d₆ k₆ => ?_⟩)))
  have e₆ : Keep h₅ h₆ := k₆
  have fm₆ := fm₅.keep e₆
  have X₆ := X₅.keep e₆
  have Y₆ := Y₅.keep e₆
  refine n_loc fm₆ (v := .ref q.x) ?_
  refine m_setattr (h := h₆) (G.X.keeps fm₆.base) Y₆.inst Y₆.att (by decide) (a_orig w) fun h₇ t₇ n₇ s₇ => ?_
  have fr₅ : h₅.objs.size ∉ Ptr.addrs { q with data := h₃.objs.size } := fun e => Nat.lt_irrefl _ (Y₅.lt _ e)
  have fd₅ : h₅.objs.size ≠ q.d := fun e => fr₅ (by rw [e]; simp)
  have Y₇ := Y₆.put_orig s₇ n₇ (DictOf_at d₆ fun o e => (s₇.2 _ fd₅).trans e) fr₅ (low_size fm₅.base (Nat.le_refl _)) (G.sys fm₅.base (Nat.le_refl _))
  have X₇ : AS w h₀ h₇ p D (bvs Ol) S Gs N := X₆.of fun a ha o e => (s₇.2 a (nqd a ha)).trans e
  have fm₇ := fm₆.turn s₇ qdL (Y₂.low _ dq)
  have k₇ : Keep h h₇ := fun b o e => (s₇.2 b (Nat.ne_of_lt (Nat.lt_trans (Heap.lt_size e) (qa' _ dq)))).trans (e₆ b o (k₅ b o e))
  have z₅ : h.objs.size ≤ h₅.objs.size := Nat.le_of_lt fm₅.ns.lt
  -- _seen
  refine wpAny_execs_cons (plainObj_wpAny_Assign_Attribute (n_bm0 F.plainAttrs_set F.slot_set_copy F.type_set_copy (n_att G fm₇ X₇ (a_seen w) fun t' => ⟨_, rfl, SetI_ob X₇.seen, m_copy X₇.seen fun h₈ s₈ d₈ => ?_⟩)))
  have e₈ : Keep h₇ h₈ := fun b o e => (s₈.2 b (Nat.ne_of_lt (Heap.lt_size e))).trans (Heap.get?_push_of_some _ e)
  have fm₈ := fm₇.keep e₈
  have X₈ := X₇.keep e₈
  have Y₈ := Y₇.keep e₈
  refine n_loc fm₈ (v := .ref q.x) ?_
  refine m_setattr (h := h₈) (G.X.keeps fm₈.base) Y₈.inst Y₈.att (by decide) (a_seen w) fun h₉ t₉ n₉ s₉ => ?_
  have fr₇ : h₇.objs.size ∉ Ptr.addrs { q with data := h₃.objs.size, orig := h₅.objs.size } := fun e => Nat.lt_irrefl _ (Y₇.lt _ e)
  have fd₇ : h₇.objs.size ≠ q.d := fun e => fr₇ (by rw [e]; simp)
  have Y₉ := Y₈.put_seen s₉ n₉ (d₈.at fun o e => (s₉.2 _ fd₇).trans e) fr₇ (low_size fm₇.base (Nat.le_refl _)) (G.sys fm₇.base (Nat.le_refl _))
  have X₉ : AS w h₀ h₉ p D (bvs Ol) S Gs N := X₈.of fun a ha o e => (s₉.2 a (nqd a ha)).trans e
  have fm₉ := fm₈.turn s₉ qdL (Y₂.low _ dq)
  have k₉ : Keep h h₉ := fun b o e => (s₉.2 b (Nat.ne_of_lt (Nat.lt_trans (Heap.lt_size e) (qa' _ dq)))).trans (e₈ b o (k₇ b o e))
  have z₇ : h.objs.size ≤ h₇.objs.size := Nat.le_of_lt fm₇.ns.lt
  -- _assigned_ids
  refine wpAny_execs_cons (plainObj_wpAny_Assign_Attribute (n_bm0 F.plainAttrs_set F.slot_set_copy F.type_set_copy (n_att G fm₉ X₉ (a_asg w) fun t' => ⟨_, rfl, SetI_ob X₉.asg, m_copy X₉.asg fun h₁₀ s₁₀ d₁₀ => ?_⟩)))
  have e₁₀ : Keep h₉ h₁₀ := fun b o e => (s₁₀.2 b (Nat.ne_of_lt (Heap.lt_size e))).trans (Heap.get?_push_of_some _ e)
  have fm₁₀ := fm₉.keep e₁₀
  have X₁₀ := X₉.keep e₁₀
  have Y₁₀ := Y₉.keep e₁₀
  refine n_loc fm₁₀ (v := .ref q.x) ?_
  refine m_setattr (h := h₁₀) (G.X.keeps fm₁₀.base) Y₁₀.inst Y₁₀.att (by decide) (a_asg w) fun h₁₁ t₁₁ n₁₁ s₁₁ => ?_
  have fr₉ : h₉.objs.size ∉ Ptr.addrs { q with data := h₃.objs.size, orig := h₅.objs.size, seen := h₇.objs.size } := fun e => Nat.lt_irrefl _ (Y₉.lt _ e)
  have fd₉ : h₉.objs.size ≠ q.d := fun e => fr₉ (by rw [e]; simp)
  have Y₁₁ := Y₁₀.put_asg s₁₁ n₁₁ (d₁₀.at fun o e => (s₁₁.2 _ fd₉).trans e) fr₉ (low_size fm₉.base (Nat.le_refl _)) (G.sys fm₉.base (Nat.le_refl _))
  have X₁₁ : AS w h₀ h₁₁ p D (bvs Ol) S Gs N := X₁₀.of fun a ha o e => (s₁₁.2 a (nqd a ha)).trans e
  have fm₁₁ := fm₁₀.turn s₁₁ qdL (Y₂.low _ dq)
  have k₁₁ : Keep h h₁₁ := fun b o e => (s₁₁.2 b (Nat.ne_of_lt (Nat.lt_trans (Heap.lt_size e) (qa' _ dq)))).trans (e₁₀ b o (k₉ b o e))
  have z₉ : h.objs.size ≤ h₉.objs.size := Nat.le_of_lt fm₉.ns.lt
  -- new_keys
  refine wpAny_execs_cons (plainObj_wpAny_Assign_Attribute (n_bm0 F.plainAttrs_set F.slot_set_copy F.type_set_copy (n_att G fm₁₁ X₁₁ (a_newk w) fun t' => ⟨_, rfl, SetI_ob X₁₁.newk, m_copy X₁₁.newk fun h₁₂ s₁₂ d₁₂ => ?_⟩)))
  have e₁₂ : Keep h₁₁ h₁₂ := fun b o e => (s₁₂.2 b (Nat.ne_of_lt (Heap.lt_size e))).trans (Heap.get?_push_of_some _ e)
  have fm₁₂ := fm₁₁.keep e₁₂
  have X₁₂ := X₁₁.keep e₁₂
  have Y₁₂ := Y₁₁.keep e₁₂
  refine n_loc fm₁₂ (v := .ref q.x) ?_
  refine m_setattr (h := h₁₂) (G.X.keeps fm₁₂.base) Y₁₂.inst Y₁₂.att (by decide) (a_newk w) fun h₁₃ t₁₃ n₁₃ s₁₃ => ?_
  have fr₁₁ : h₁₁.objs.size ∉ Ptr.addrs { q with data := h₃.objs.size, orig := h₅.objs.size, seen := h₇.objs.size, asg := h₉.objs.size } := fun e => Nat.lt_irrefl _ (Y₁₁.lt _ e)
  have fd₁₁ : h₁₁.objs.size ≠ q.d := fun e => fr₁₁ (by rw [e]; simp)
  have Y₁₃ := Y₁₂.put_newk s₁₃ n₁₃ (d₁₂.at fun o e => (s₁₃.2 _ fd₁₁).trans e) fr₁₁ (low_size fm₁₁.base (Nat.le_refl _)) (G.sys fm₁₁.base (Nat.le_refl _))
  have X₁₃ : AS w h₀ h₁₃ p D (bvs Ol) S Gs N := X₁₂.of fun a ha o e => (s₁₃.2 a (nqd a ha)).trans e
  have fm₁₃ := fm₁₂.turn s₁₃ qdL (Y₂.low _ dq)
  have k₁₃ : Keep h h₁₃ := fun b o e => (s₁₃.2 b (Nat.ne_of_lt (Nat.lt_trans (Heap.lt_size e) (qa' _ dq)))).trans (e₁₂ b o (k₁₁ b o e))
  have z₁₁ : h.objs.size ≤ h₁₁.objs.size := Nat.le_of_lt fm₁₁.ns.lt
  refine wpAny_execs_cons (wpAny_Return_some (n_loc fm₁₃ (v := .ref q.x) ?_))
  refine kk h₁₃ _ { q with data := h₃.objs.size, orig := h₅.objs.size, seen := h₇.objs.size, asg := h₉.objs.size, newk := h₁₁.objs.size } ⟨_, _, _, _, _, Y₁₃, r, .inl qc⟩ qc ?_ k₁₃
  intro b hb
  simp only [Ptr.addrs, List.mem_cons, List.not_mem_nil, or_false] at hb
  rcases hb with e | e | e | e | e | e | e
  · rw [e]; exact Nat.le_of_lt (qa' _ (by simp))
  · rw [e]; exact Nat.le_of_lt (qa' _ (by simp))
  · rw [e]; exact z₃
  · rw [e]; exact z₅
  · rw [e]; exact z₇
  · rw [e]; exact z₉
  · rw [e]; exact z₁₁
end
end
end Mine
namespace Mine
noncomputable section
/-- how our generator ends, and what it hands out: an item that the heap of that moment shows -/
noncomputable def gEnd (C I : Addr) : GenEnd := fun m s₀ r s₁ => r = .ok .next ∧ (m = 0 ∧ GenSince C [I] s₀ s₁)
noncomputable def gY (C I : Addr) (N₀ n : Nat) (F : Nat → Value → Heap → Prop) : Protocol := fun m s₀ v s kap =>
  F (n - 1 - m) v s.heap ∧ GenSince C [I] s₀ s ∧ ∀ s'' : Shared, (∀ b o, (b < N₀ ∨ b = C) → s.heap.get? b = some o → s''.heap.get? b = some o) → kap (.send .none) s''
section
variable {w : World} {A : Around} {elt iter : PySem.Expr} {x : Str} {px : Pos} {scope : Scope} {pos : Pos} {I C sa a : Addr} {N₀ n gi : Nat} {P : Nat → Value → Prop} {St₀ : Nat → Heap → Prop} {cenv : Env} {F : Nat → Value → Heap → Prop} {href : Heap}
theorem sg_loop (hh : A.handled = none) (W₀ : ∀ A' : Around, A'.handled = none → Walks PR w A' I [I, sa] [I] n P St₀) (hI : I < N₀) (hsa : sa < N₀) (hC : N₀ ≤ C) (hCe : cenv.locals = C)
    (hx : cenv.kindOf x = some .local) (hkd : cenv.scope.kind = .function) (hco : cenv.scope.isCoroutine = false)
    (helt : ∀ (A' : Around) E' i v (s₂ : Shared) m₂, A'.handled = none → i < n → P i v → s₂.heap.Ns C m₂ → m₂ x = some v → (∀ b o, b < N₀ → b ≠ I → href.get? b = some o → s₂.heap.get? b = some o) →
      wpAny (MM w) A' (eval elt cenv) (fun y s₃ => F i y s₃.heap ∧ Keeps s₂ s₃) E' s₂) :
    ∀ (k i : Nat) (s₀ s : Shared) (m : Str → Option Value), i + k = n → St₀ i s.heap → s.heap.Ns C m → GenSince C [I] s₀ s → (∀ b o, b < N₀ → b ≠ I → href.get? b = some o → s.heap.get? b = some o) →
      Seg (MM w) A (gEnd C I) (gY C I N₀ n F) k s₀ (.compLoop (.GeneratorExp elt [⟨.Name x px, iter, [], 0⟩] scope pos) 0 (.ref I) .none cenv)
        ((MM w).den (.compLoop (.GeneratorExp elt [⟨.Name x px, iter, [], 0⟩] scope pos) 0 (.ref I) .none cenv)) [] s := by
  subst hCe
  have hp : (cenv.scope.kind == .class || (cenv.scope.kind == .module && cenv.locals != cenv.globals)) = false := by rw [hkd]; rfl
  have hh' : (A.over (.compLoop (.GeneratorExp elt [⟨.Name x px, iter, [], 0⟩] scope pos) 0 (.ref I) .none cenv) []).handled = none := hh
  have IC : I ≠ cenv.locals := Nat.ne_of_lt (Nat.lt_of_lt_of_le hI hC)
  have sC : sa ≠ cenv.locals := Nat.ne_of_lt (Nat.lt_of_lt_of_le hsa hC)
  have fr : ∀ i (h h' : Heap), St₀ i h → (∀ b o, b ≠ cenv.locals → h.get? b = some o → h'.get? b = some o) → St₀ i h' := fun i h h' st hk => (W₀ A hh).frame _ _ _ st fun b hb o e => by
    simp only [List.mem_cons, List.not_mem_nil, or_false] at hb
    rcases hb with rfl | rfl
    · exact hk _ o IC e
    · exact hk _ o sC e
  intro k
  induction k with
  | zero =>
    intro i s₀ s m hk hst hn hsince hkp
    have hin : i = n := by omega
    subst hin
    show Seg _ A _ _ _ s₀ _ ((compTurn (.GeneratorExp elt [⟨.Name x px, iter, [], 0⟩] scope pos) 0 (.ref I) .none cenv).onRaise (leaving cenv)) [] s
    rw [compTurn_gen, Sem.onRaise_eq_wrap]
    refine seg_bind_wrap (wpAny_standAt ?_)
    refine seg_bind_wrap ((W₀ _ hh').done s _ _ hst fun h' tk hk' => ?_)
    exact seg_end (.ok .next) ⟨rfl, rfl, hsince.step fun b o _ hw e => hk' b o hw e⟩
  | succ k ih =>
    intro i s₀ s m hk hst hn hsince hkp
    have hlt : i < n := by omega
    show Seg _ A _ _ _ s₀ _ ((compTurn (.GeneratorExp elt [⟨.Name x px, iter, [], 0⟩] scope pos) 0 (.ref I) .none cenv).onRaise (leaving cenv)) [] s
    rw [compTurn_gen, Sem.onRaise_eq_wrap]
    refine seg_bind_wrap (wpAny_standAt ?_)
    refine seg_bind_wrap ((W₀ _ hh').item i s _ _ hlt hst fun v h₁ tk₁ hPv hst₁ hk₁ => ?_)
    refine seg_bind_wrap (wpAny_of_eq (rfl : letOwnedTupleGo (.Name x px) (.ref I) v = pure ()) ?_)
    refine seg_bind_wrap (wpAny_assign_Name (wpAny_storeName_local hx (hn.at' fun o e => hk₁ _ o (by simpa using Ne.symm IC) e) (fun h₂ hn₂ hs₂ => ?_) hp))
    have up₂ : ∀ b o, b ≠ cenv.locals → b ∉ [I] → s.heap.get? b = some o → h₂.get? b = some o := fun b o hbC hbw e => hs₂.extBut b o hbC (hk₁ b o hbw e)
    have hst₂ : St₀ (i + 1) h₂ := fr _ _ _ hst₁ fun b o hb e => hs₂.extBut b o hb e
    have hkp₂ : ∀ b o, b < N₀ → b ≠ I → href.get? b = some o → h₂.get? b = some o := fun b o hb hbw e => up₂ b o (Nat.ne_of_lt (Nat.lt_of_lt_of_le hb hC)) (by simpa using hbw) (hkp b o hb hbw e)
    have hsince₂ : GenSince cenv.locals [I] s₀ { s with heap := h₂, toks := tk₁ + 1 } := hsince.step fun b o hbC hbw e => up₂ b o hbC hbw e
    refine seg_bind_wrap ?_
    rw [List.forIn_nil]
    refine wpAny_pure ?_
    simp only [if_true]
    have hy : ∀ v, yieldOut cenv v = yieldValue v := fun v => by simp only [yieldOut, hco, Bool.false_eq_true, if_false]
    simp only [hy]
    rw [Sem.bind_eq_wrap', Sem.bind_eq_wrap', Sem.wrap_wrap, Sem.wrap_wrap]
    refine seg_wrap (wpAny_mono (helt _ _ i v _ _ hh' hlt hPv hn₂ (by simp) hkp₂) (fun y s₄ h₄ => ?_) fun _ _ e => e)
    obtain ⟨hFy, h₄, tk₄, rfl, hk₄⟩ := h₄
    refine seg_at (seg_yield rfl rfl rfl ⟨by rw [show n - 1 - k = i by omega]; exact hFy, hsince₂.step fun b o _ _ e => hk₄ b o e, fun s'' hal => ?_⟩)
    refine seg_again rfl (ih (i + 1) s'' s'' _ (by omega) ((W₀ A hh).frame _ _ _ hst₂ fun b hb o e => hal b o ?_ (hk₄ b o e)) ((hn₂.keeps hk₄).at' fun o e => hal _ o (.inr rfl) e) (GenSince.refl _ _ _)
      fun b o hb hbw e => hal b o (.inl hb) (hk₄ b o (hkp₂ b o hb hbw e)))
    simp only [List.mem_cons, List.not_mem_nil, or_false] at hb
    rcases hb with rfl | rfl
    · exact .inl hI
    · exact .inl hsa
theorem sg_start (hh : A.handled = none) (W₀ : ∀ A' : Around, A'.handled = none → Walks PR w A' I [I, sa] [I] n P St₀) (hI : I < N₀) (hsa : sa < N₀) (hC : N₀ ≤ C) (hCe : cenv.locals = C)
    (hx : cenv.kindOf x = some .local) (hkd : cenv.scope.kind = .function) (hco : cenv.scope.isCoroutine = false)
    (helt : ∀ (A' : Around) E' i v (s₂ : Shared) m₂, A'.handled = none → i < n → P i v → s₂.heap.Ns C m₂ → m₂ x = some v → (∀ b o, b < N₀ → b ≠ I → href.get? b = some o → s₂.heap.get? b = some o) →
      wpAny (MM w) A' (eval elt cenv) (fun y s₃ => F i y s₃.heap ∧ Keeps s₂ s₃) E' s₂)
    (s : Shared) (m : Str → Option Value) (hst : St₀ 0 s.heap) (hn : s.heap.Ns C m) (hkp : ∀ b o, b < N₀ → b ≠ I → href.get? b = some o → s.heap.get? b = some o) :
    Seg (MM w) A (gEnd C I) (gY C I N₀ n F) n s (.compStart (.GeneratorExp elt [⟨.Name x px, iter, [], 0⟩] scope pos) 0 (.ref I) .none cenv)
        ((MM w).den (.compStart (.GeneratorExp elt [⟨.Name x px, iter, [], 0⟩] scope pos) 0 (.ref I) .none cenv)) [] s := by
  have hh' : (A.over (.compStart (.GeneratorExp elt [⟨.Name x px, iter, [], 0⟩] scope pos) 0 (.ref I) .none cenv) []).handled = none := hh
  have loop := sg_loop (iter := iter) (px := px) (scope := scope) (pos := pos) hh W₀ hI hsa hC hCe hx hkd hco helt n 0 s s m (by omega) hst hn (GenSince.refl _ _ _) hkp
  show Seg _ A _ _ _ s _ ((compStart (.GeneratorExp elt [⟨.Name x px, iter, [], 0⟩] scope pos) 0 (.ref I) .none cenv).onRaise (leaving cenv)) [] s
  unfold compStart
  rw [Sem.onRaise_eq_wrap]
  show Seg _ A _ _ _ s _ ((ask >>= _).wrap _ _ _ _) [] s
  refine seg_bind_wrap (wpAny_askSetting ?_)
  split
  · exact seg_again rfl loop
  · refine seg_bind_wrap (wpAny_rule ?_)
    show Seg _ A _ _ _ s _ ((standAt iter.pos >>= _).wrap _ _ _ _) [] s
    exact seg_bind_wrap (wpAny_standAt (seg_bind_wrap ((W₀ _ hh').self 0 s _ _ hst (seg_again rfl loop))))
/-- the generator a, numbered gi, before its i-th item -/
noncomputable def GAt (w : World) (A : Around) (a : Addr) (gi : Nat) (C I : Addr) (N₀ n : Nat) (F : Nat → Value → Heap → Prop) (i : Nat) (s : Shared) : Prop :=
  s.heap.IsGen a gi ∧ s.heap.NoLimit ∧ ∃ gs, s.gens[gi]? = some gs ∧ ∀ s'' : Shared, (∀ b o, (b < N₀ ∨ b = C) → s.heap.get? b = some o → s''.heap.get? b = some o) → gs.Goes (MM w) A.in1 (gEnd C I) (gY C I N₀ n F) (n - i) (.send .none) s''
theorem GAt.frame {i : Nat} {s : Shared} {h' : Heap} {tk : Nat} (x : GAt w A a gi C I N₀ n F i s) (k : Keep s.heap h') : GAt w A a gi C I N₀ n F i { s with heap := h', toks := tk } :=
  ⟨let ⟨o, nm, qn, ho, r⟩ := x.1; ⟨o, nm, qn, k _ _ ho, r⟩, x.2.1.keeps k, let ⟨gs, hgs, hgo⟩ := x.2.2; ⟨gs, hgs, fun s'' hal => hgo s'' fun b o hb e => hal b o hb (k b o e)⟩⟩
/-- since then only C and I have turned, and the generator -/
noncomputable def GSince (C I : Addr) (gi : Nat) (s s' : Shared) : Prop := ∃ h' g' tk, s' = ⟨h', g', s.drawn, tk, s.os⟩ ∧ GenOnly gi s.gens g' ∧ ∀ b o, b ≠ C → b ≠ I → s.heap.get? b = some o → h'.get? b = some o
theorem g_next {i : Nat} {s : Shared} {Q : Option Value → Shared → Prop} {E : Value → Shared → Prop} (hh : A.handled = none) (hroom : A.depth < recursionLimit) (haC : a ≠ C) (haI : a ≠ I) (hcs : cStatics ≠ C) (hci : cStatics ≠ I)
    (hi : i < n) (x : GAt w A a gi C I N₀ n F i s) (kk : ∀ v s', F i v s'.heap → GAt w A a gi C I N₀ n F (i + 1) s' → GSince C I gi s s' → Q (some v) s') : wpAny (MM w) A (pyNext (.ref a)) Q E s := by
  obtain ⟨hg, hl, gs, hgs, hgo⟩ := x
  obtain ⟨m, hm⟩ : ∃ m, n - i = m + 1 := ⟨n - i - 1, by omega⟩
  rw [hm] at hgo
  refine wpAny_pyNext_genexp (P := fun n s₀ s₁ => n = 0 ∧ GenSince C [I] s₀ s₁) hh hl hroom hg hgs (hgo _ fun _ _ _ e => e) (fun v s₁ gs' hv => ?_) (fun s₁ hp h' hk => ?_)
  · obtain ⟨hF, ⟨h₁, tk₁, rfl, hk₁⟩, hkap⟩ := hv
    rw [show n - 1 - (m + 1 - 1) = i by omega] at hF
    refine kk v _ hF ⟨let ⟨o, nm, qn, ho, r⟩ := hg; ⟨o, nm, qn, hk₁ a o haC (by simpa using haI) ho, r⟩, (let ⟨mc, hns, hnn⟩ := hl; ⟨mc, hns.at' fun o e => hk₁ cStatics o hcs (by simpa using hci) e, hnn⟩), gs', setGen_self (gs := .running) (setGen_self hgs), fun s'' hal => ?_⟩
      ⟨h₁, _, tk₁, rfl, (GenOnly.setGen s gi .running).trans (GenOnly.setGen _ gi gs'), fun b o b1 b2 e => hk₁ b o b1 (by simpa using b2) e⟩
    rw [show n - (i + 1) = m by omega]
    exact hkap s'' hal
  · exact absurd hp.1 (Nat.succ_ne_zero m)
theorem g_done {s : Shared} {Q : Option Value → Shared → Prop} {E : Value → Shared → Prop} (hh : A.handled = none) (hroom : A.depth < recursionLimit) (x : GAt w A a gi C I N₀ n F n s)
    (kk : ∀ s', s'.gens[gi]? = some .finished → GSince C I gi s s' → Q none s') : wpAny (MM w) A (pyNext (.ref a)) Q E s := by
  obtain ⟨hg, hl, gs, hgs, hgo⟩ := x
  rw [Nat.sub_self] at hgo
  refine wpAny_pyNext_genexp (P := fun n s₀ s₁ => n = 0 ∧ GenSince C [I] s₀ s₁) hh hl hroom hg hgs (hgo _ fun _ _ _ e => e) (fun v s₁ gs' hv => ?_) (fun s₁ hp h' hk => ?_)
  · obtain ⟨_, _, hkap⟩ := hv
    exact False.elim (hkap s₁ fun _ _ _ e => e)
  · obtain ⟨_, h₁, tk₁, rfl, hk₁⟩ := hp
    exact kk _ (setGen_self (gs := .running) (setGen_self hgs)) ⟨h', _, tk₁, rfl, (GenOnly.setGen s gi .running).trans (GenOnly.setGen _ gi .finished), fun b o b1 b2 e => hk b o (hk₁ b o b1 (by simpa using b2) e)⟩
end
end
end Mine
namespace Mine
noncomputable section
theorem GSince.refl (C I : Addr) (gi : Nat) (s : Shared) : GSince C I gi s s := ⟨s.heap, s.gens, s.toks, rfl, ⟨rfl, fun _ _ => rfl⟩, fun _ _ _ _ e => e⟩
theorem GSince.trans {C I : Addr} {gi : Nat} {a b c : Shared} (x : GSince C I gi a b) (y : GSince C I gi b c) : GSince C I gi a c := by
  obtain ⟨h₁, g₁, t₁, rfl, o₁, k₁⟩ := x
  obtain ⟨h₂, g₂, t₂, rfl, o₂, k₂⟩ := y
  exact ⟨h₂, g₂, t₂, rfl, o₁.trans o₂, fun b o b1 b2 e => k₂ b o b1 b2 (k₁ b o b1 b2 e)⟩
section
variable {w : World} {A : Around} {I C a : Addr} {N₀ n gi : Nat} {F : Nat → Value → Heap → Prop} {R : Result → Shared → Prop} {E : Value → Shared → Prop}
/-- what the list has taken in so far -/
noncomputable def Got (F : Nat → Value → Heap → Prop) (acc : Array Value) (i : Nat) (h : Heap) : Prop := acc.size = i ∧ ∀ j v, acc[j]? = some v → F j v h
noncomputable abbrev Stable (C I : Addr) (F : Nat → Value → Heap → Prop) : Prop := ∀ i v h h', F i v h → (∀ b u v, b ≠ C → b ≠ I → h.get? b = some (tup2 u v) → h'.get? b = some (tup2 u v)) → F i v h'
/-- as GSince, and the list z may have turned as well -/
noncomputable def ZSince (z C I : Addr) (gi : Nat) (s s' : Shared) : Prop := ∃ h' g' tk, s' = ⟨h', g', s.drawn, tk, s.os⟩ ∧ GenOnly gi s.gens g' ∧ ∀ b o, b ≠ z → b ≠ C → b ≠ I → s.heap.get? b = some o → h'.get? b = some o
theorem ZSince.trans {z C I : Addr} {gi : Nat} {a b c : Shared} (x : ZSince z C I gi a b) (y : ZSince z C I gi b c) : ZSince z C I gi a c := by
  obtain ⟨h₁, g₁, t₁, rfl, o₁, k₁⟩ := x
  obtain ⟨h₂, g₂, t₂, rfl, o₂, k₂⟩ := y
  exact ⟨h₂, g₂, t₂, rfl, o₁.trans o₂, fun b o b0 b1 b2 e => k₂ b o b0 b1 b2 (k₁ b o b0 b1 b2 e)⟩
theorem GSince.z {z C I : Addr} {gi : Nat} {a b : Shared} (x : GSince C I gi a b) : ZSince z C I gi a b := by
  obtain ⟨h₁, g₁, t₁, rfl, o₁, k₁⟩ := x
  exact ⟨h₁, g₁, t₁, rfl, o₁, fun b o _ b1 b2 e => k₁ b o b1 b2 e⟩
theorem GSince.heap {C I : Addr} {gi : Nat} {a b : Shared} (x : GSince C I gi a b) : ∀ c o, c ≠ C → c ≠ I → a.heap.get? c = some o → b.heap.get? c = some o := by
  obtain ⟨h₁, g₁, t₁, rfl, o₁, k₁⟩ := x
  exact k₁
theorem Got.at {acc : Array Value} {i : Nat} {h h' : Heap} (hF : Stable C I F) (x : Got F acc i h) (k : ∀ b u v, b ≠ C → b ≠ I → h.get? b = some (tup2 u v) → h'.get? b = some (tup2 u v)) : Got F acc i h' :=
  ⟨x.1, fun j v e => hF j v h h' (x.2 j v e) k⟩
theorem Got.push {acc : Array Value} {i : Nat} {h : Heap} {v : Value} (x : Got F acc i h) (hv : F i v h) : Got F (acc.push v) (i + 1) h := by
  refine ⟨by rw [Array.size_push, x.1], fun j u hj => ?_⟩
  rw [Array.getElem?_push] at hj
  split at hj
  · rename_i e; rw [x.1] at e; cases hj; rw [e]; exact hv
  · exact x.2 j u hj
theorem g_extend (hh : A.handled = none) (hroom : A.depth < recursionLimit) (haC : a ≠ C) (haI : a ≠ I) (hcs : cStatics ≠ C) (hci : cStatics ≠ I) (hF : Stable C I F) (hn : n < 1000) {z : Addr} (hz : N₀ ≤ z) (hzC : z ≠ C) (hzI : z ≠ I) (hza : z ≠ a) (hzc : cStatics ≠ z) (res : Value) :
    ∀ (k i : Nat) (s : Shared) (acc : Array Value) (c : Nat), i + k = n → GAt w A.in1 a gi C I N₀ n F i s → s.heap.get? z = some (seqObj "list" acc c) → Got F acc i s.heap →
      (∀ s' acc' c', Got F acc' n s'.heap → s'.heap.get? z = some (seqObj "list" acc' c') → s'.gens[gi]? = some .finished → ZSince z C I gi s s' → R (.ok (.ret res)) s') →
      codeAny (MM w) A (.builtin "list.extend.loop" ⟨[.ref z, .ref a, res], []⟩) R s := by
  intro k
  induction k with
  | zero =>
    intro i s acc c hk hst hS hacc hR
    have hin : i = n := by omega
    subst hin
    refine codeAny_builtin PySem.F.entry_extend_loop ?_
    rw [Around.under_plainId PySem.F.plain_extend_loop _]
    show wpAny _ A.in1 (pyNext (.ref a) >>= _) _ _ s
    refine wpAny_bind (g_done (A := A.in1) hh hroom hst fun s' hf hg => ?_)
    exact wpAny_pure (hR s' acc c (hacc.at hF fun b u v b1 b2 e => hg.heap b _ b1 b2 e) (hg.heap z _ hzC hzI hS) hf hg.z)
  | succ k ih =>
    intro i s acc c hk hst hS hacc hR
    refine codeAny_builtin PySem.F.entry_extend_loop ?_
    rw [Around.under_plainId PySem.F.plain_extend_loop _]
    show wpAny _ A.in1 (pyNext (.ref a) >>= _) _ _ s
    refine wpAny_bind (g_next (A := A.in1) hh hroom haC haI hcs hci (by omega) hst fun v s' hv hst' hg => ?_)
    have hS' := hg.heap z _ hzC hzI hS
    show wpAny _ A.in1 (updateSeq z (·.push v) >>= _) _ _ _
    refine wpAny_bind ?_
    have hacc' : Got F (acc.push v) (i + 1) s'.heap := (hacc.at hF fun b u v b1 b2 e => hg.heap b _ b1 b2 e).push hv
    have oth : ∀ b o, b ≠ z → s'.heap.get? b = some o → (s'.heap.update z (Obj.mapSeq (·.push v))).get? b = some o := fun b o hb e => (Heap.get?_update_other _ _ (Ne.symm hb)).trans e
    refine wpAny_updateSeq hS' rfl (wpAny_pure ⟨plainId_quiet PySem.F.plain_extend_loop _, ih (i + 1) _ (acc.push v) _ (by omega) ?_ (Heap.get?_update_self _ hS' rfl) (hacc'.at hF fun b u v _ _ e => oth b _ (ne_cls e hS' rfl rfl (by decide)) e) fun s'' acc' c' g1 g2 g3 g4 => ?_⟩)
      (by rw [hacc.1, sizeLine_eq]; omega) (by show (acc.push v).size ≤ sizeLine + 1; rw [Array.size_push, hacc.1, sizeLine_eq]; omega)
    · obtain ⟨hg', hl', gs, hgs, hgo⟩ := hst'
      refine ⟨let ⟨o, nm, qn, ho, r⟩ := hg'; ⟨o, nm, qn, oth _ _ (Ne.symm hza) ho, r⟩, (let ⟨mc, hns, hnn⟩ := hl'; ⟨mc, hns.at' fun o e => oth _ o hzc e, hnn⟩), gs, hgs, fun s'' hal => hgo s'' fun b o hb e => hal b o hb (oth b o ?_ e)⟩
      rcases hb with hb | rfl
      · exact Nat.ne_of_lt (Nat.lt_of_lt_of_le hb hz)
      · exact Ne.symm hzC
    · refine hR s'' acc' c' g1 g2 g3 (hg.z.trans ?_)
      obtain ⟨h₂, g₂, t₂, rfl, o₂, k₂⟩ := g4
      exact ⟨h₂, g₂, t₂, rfl, o₂, fun b o b0 b1 b2 e => k₂ b o b0 b1 b2 (oth b o b0 e)⟩
/-- the generator is read into a list -/
theorem g_collect {s : Shared} {Q : List Value → Shared → Prop} (hh : A.handled = none) (hroom : A.depth < recursionLimit) (haC : a ≠ C) (haI : a ≠ I) (hcs : cStatics ≠ C) (hci : cStatics ≠ I) (hF : Stable C I F) (hn : n < 1000)
    (hz : N₀ ≤ s.heap.objs.size) (hCs : C < s.heap.objs.size) (hIs : I < s.heap.objs.size) (hst : GAt w A.in1 a gi C I N₀ n F 0 s)
    (hQ : ∀ s' (ys : List Value), ys.length = n → (∀ j v, ys[j]? = some v → F j v s'.heap) → s'.gens[gi]? = some .finished → GSince C I gi s s' → Q ys s') : wpAny (MM w) A (collect (.ref a)) Q E s := by
  have ha : a < s.heap.objs.size := let ⟨o, _, _, ho, _⟩ := hst.1; Heap.lt_size ho
  have hcl : cStatics < s.heap.objs.size := let ⟨mc, hns, _⟩ := hst.2.1; hns.lt
  have hza : s.heap.objs.size ≠ a := Nat.ne_of_gt ha
  unfold collect
  refine wpAny_bind (wpAny_runValue (codeAny_builtin PySem.F.entry_proto_collect ?_))
  rw [Around.under_plainId PySem.F.plain_proto_collect _]
  show wpAny _ A.in1 (newList [] >>= fun l => again (.builtin "list.__iadd__" ⟨[l, .ref a], []⟩)) _ _ s
  refine wpAny_bind (wpAny_newObj_type ?_)
  refine wpAny_pure ⟨plainId_quiet PySem.F.plain_list_iadd _, codeAny_builtin PySem.F.entry_list_iadd ?_⟩
  rw [Around.under_plainId PySem.F.plain_list_iadd _]
  have k₁ : Keep s.heap (s.heap.push { cls := .type "list", data := .seq ([] : List Value).toArray }) := fun b o e => Heap.get?_push_of_some _ e
  have hS₁ : (s.heap.push { cls := .type "list", data := .seq ([] : List Value).toArray }).get? s.heap.objs.size = some { cls := .type "list", data := .seq ([] : List Value).toArray } := Heap.get?_push_size _ rfl
  have hst₁ := hst.frame (tk := s.toks) k₁
  have hT : Shared.TypeIs { s with heap := s.heap.push { cls := .type "list", data := .seq ([] : List Value).toArray } } (.ref a) "generator" := hst₁.1.typeIs
  show wpAny _ A.in1 (Builtin.List.listExtendWith (.ref s.heap.objs.size) (.ref a) (.ref s.heap.objs.size)) _ _ _
  unfold Builtin.List.listExtendWith
  refine wpAny_bind (wpAny_typeOf hT ?_)
  have h1 : Builtin.List.listSameRef (.ref s.heap.objs.size) (.ref a) = false := by simp [Builtin.List.listSameRef, hza]
  have h2 : (Value.type "generator" == Value.type "list") = false := by decide
  have h3 : (Value.type "generator" == Value.type "tuple") = false := by decide
  simp only [h1, h2, h3, Bool.or_false, Bool.false_eq_true, if_false]
  refine wpAny_bind (wpAny_pyIter_gen hst₁.1 ?_)
  refine wpAny_bind (wpAny_holding ?_)
  unfold Builtin.List.listLengthHint
  refine wpAny_bind (wpAny_specialOf hT PySem.F.gen_no_len ?_)
  show wpAny _ A.in1 (specialOf (Value.ref a) (Str.ofString "__length_hint__") >>= _) _ _ _
  refine wpAny_bind (wpAny_specialOf hT PySem.F.gen_no_hint ?_)
  refine wpAny_pure ?_
  show wpAny _ A.in1 (rule "list.extend.makes-room" >>= fun _ => Builtin.List.listTouch (.ref s.heap.objs.size) >>= fun _ =>
    again (.builtin "list.extend.loop" ⟨[.ref s.heap.objs.size, .ref a, .ref s.heap.objs.size], []⟩)) _ _ _
  refine wpAny_bind (wpAny_rule (wpAny_bind ?_))
  show wpAny _ A.in1 (updateSeq s.heap.objs.size (·.push .none) >>= fun _ => updateSeq s.heap.objs.size (·.pop)) _ _ _
  refine wpAny_bind (wpAny_updateSeq hS₁ rfl ?_)
  have hS₂ := Heap.get?_update_self (Obj.mapSeq (·.push Value.none)) hS₁ rfl
  refine wpAny_updateSeq hS₂ rfl ?_
  have hS₃ := Heap.get?_update_self (Obj.mapSeq (·.pop)) hS₂ rfl
  have oth : ∀ b o, b ≠ s.heap.objs.size → (s.heap.push { cls := .type "list", data := .seq ([] : List Value).toArray }).get? b = some o →
      (((s.heap.push { cls := .type "list", data := .seq ([] : List Value).toArray }).update s.heap.objs.size (Obj.mapSeq (·.push Value.none))).update s.heap.objs.size (Obj.mapSeq (·.pop))).get? b = some o :=
    fun b o hb e => (Heap.get?_update_other _ _ (Ne.symm hb)).trans ((Heap.get?_update_other _ _ (Ne.symm hb)).trans e)
  have oth' : Keep s.heap (((s.heap.push { cls := .type "list", data := .seq ([] : List Value).toArray }).update s.heap.objs.size (Obj.mapSeq (·.push Value.none))).update s.heap.objs.size (Obj.mapSeq (·.pop))) := fun b o e => oth b o (Nat.ne_of_lt (Heap.lt_size e)) (k₁ b o e)
  refine wpAny_pure ⟨plainId_quiet PySem.F.plain_extend_loop _, g_extend hh hroom haC haI hcs hci hF hn hz (Nat.ne_of_gt hCs) (Nat.ne_of_gt hIs) hza (Nat.ne_of_lt hcl) _ n 0 _ _ _ (by omega) (hst.frame (tk := s.toks) oth') hS₃ ⟨rfl, fun j v e => by simp at e⟩ fun s' acc' c' g1 g2 g3 g4 => ?_⟩
  show wpAny _ A (load s.heap.objs.size >>= _) _ _ s'
  refine wpAny_bind (wpAny_load g2 ?_)
  refine wpAny_pure (hQ s' acc'.toList (by rw [Array.length_toList]; exact g1.1) (fun j v e => g1.2 j v (by rwa [Array.getElem?_toList] at e)) g3 ?_)
  obtain ⟨h₂, g₂, t₂, rfl, o₂, k₂⟩ := g4
  exact ⟨h₂, g₂, t₂, rfl, o₂, fun b o b1 b2 e => k₂ b o (Nat.ne_of_lt (Heap.lt_size e)) b1 b2 (oth' b o e)⟩
end
end
end Mine
namespace Mine
noncomputable section
/-- the sort's questions answered by a plain order; none if a question is out of bounds -/
noncomputable def runB {α : Type} (n : Nat) (lt : Nat → Nat → Bool) : KasT α → Option α
  | .ret a => some a
  | .ask i j k => if i < n ∧ j < n ∧ i ≠ j then runB n lt (k (lt i j)) else none
theorem kas_pureB {α : Type} {n : Nat} {lt : Nat → Nat → Bool} {cmp : Nat → Nat → (Bool → Shared → Prop) → Shared → Prop} {Q : α → Shared → Prop} {s : Shared} (h : ∀ i j C, i < n → j < n → i ≠ j → C (lt i j) s → cmp i j C s) :
    ∀ (t : KasT α) (a : α), runB n lt t = some a → Q a s → t.kasWp cmp Q s
  | .ret b, a, e, q => by cases e; exact q
  | .ask i j k, a, e, q => by
    unfold runB at e
    split at e
    · rename_i c
      exact h i j _ c.1 c.2.1 c.2.2 (kas_pureB h (k (lt i j)) a e q)
    · cases e
noncomputable def perm16 : List (List Int) := [[], [3], [8], [16], [3, 8], [8, 3], [3, 16], [16, 3], [8, 16], [16, 8], [3, 8, 16], [3, 16, 8], [8, 3, 16], [8, 16, 3], [16, 3, 8], [16, 8, 3]]
theorem ck_sort : (perm16.all fun ks => decide (ks.length < 2) || ((runB ks.length (fun i j => decide (ks.getD i 0 < ks.getD j 0)) (kas_sort ks.length)).map fun p => (p.toList.map fun i => ks.getD i 0, p.toList.all fun i => decide (i < ks.length))) == some (K3.filter fun k => ks.contains k, true)) = true := by
  decide +kernel
theorem ck_short : (perm16.all fun ks => !decide (ks.length < 2) || ks == K3.filter fun k => ks.contains k) = true := by decide +kernel
theorem mem_perm16 {ks : List Int} (nd : ks.Nodup) (h : ∀ k ∈ ks, k ∈ K3) : ks ∈ perm16 := by
  have hl : ks.length ≤ 3 := by
    have := len_of_keys (l := ks.map fun k => (k, ())) (ks := K3) (by rw [List.map_map]; simpa [Function.comp_def] using nd) (fun x hx => by obtain ⟨k, hk, rfl⟩ := List.mem_map.mp hx; exact h k hk)
    rwa [List.length_map] at this
  match ks, nd, h, hl with
  | [], _, _, _ => decide
  | [a], _, h, _ =>
    have ha := h a (by simp)
    simp only [K3, List.mem_cons, List.not_mem_nil, or_false] at ha
    rcases ha with rfl | rfl | rfl <;> decide
  | [a, b], nd, h, _ =>
    have ha := h a (by simp)
    have hb := h b (by simp)
    simp only [K3, List.mem_cons, List.not_mem_nil, or_false] at ha hb
    rcases ha with rfl | rfl | rfl <;> rcases hb with rfl | rfl | rfl <;> first | decide | (exact absurd nd (by decide))
  | [a, b, c], nd, h, _ =>
    have ha := h a (by simp)
    have hb := h b (by simp)
    have hc := h c (by simp)
    simp only [K3, List.mem_cons, List.not_mem_nil, or_false] at ha hb hc
    rcases ha with rfl | rfl | rfl <;> rcases hb with rfl | rfl | rfl <;> rcases hc with rfl | rfl | rfl <;> first | decide | (exact absurd nd (by decide))
  | _ :: _ :: _ :: _ :: _, _, _, hl => simp at hl
/-- a row of tuples (k, ov k) -/
noncomputable def TupsAt (h : Heap) (vs : List Value) (ks : List Int) (ov : Int → Value) : Prop := vs.length = ks.length ∧ ∀ (i : Nat) (v : Value) (k : Int), vs[i]? = some v → ks[i]? = some k → ∃ (T : Addr) (t : Tok), v = .ref T ∧ h.get? T = some (tup2 (.int k t) (ov k))
theorem TupsAt.at {h h' : Heap} {vs : List Value} {ks : List Int} {ov : Int → Value} (x : TupsAt h vs ks ov) (k : ∀ b u v, h.get? b = some (tup2 u v) → h'.get? b = some (tup2 u v)) : TupsAt h' vs ks ov :=
  ⟨x.1, fun i v j e e' => let ⟨T, t, a, b⟩ := x.2 i v j e e'; ⟨T, t, a, k _ _ _ b⟩⟩
section
variable {w : World} {A : Around} {E : Value → Shared → Prop} {h : Heap} {g : Array GenState} {dr : Drawn} {t : Nat} {os : OsState}
theorem TupsAt.get {vs : List Value} {ks : List Int} {ov : Int → Value} (x : TupsAt h vs ks ov) {i : Nat} (hi : i < ks.length) : ∃ (T : Addr) (t : Tok), vs.getD i .none = .ref T ∧ h.get? T = some (tup2 (.int (ks.getD i 0) t) (ov (ks.getD i 0))) := by
  have hv : i < vs.length := by rw [x.1]; exact hi
  obtain ⟨T, t, a, b⟩ := x.2 i vs[i] ks[i] (List.getElem?_eq_getElem hv) (List.getElem?_eq_getElem hi)
  refine ⟨T, t, ?_, ?_⟩
  · rw [List.getD_eq_getElem?_getD, List.getElem?_eq_getElem hv]; exact a
  · rw [List.getD_eq_getElem?_getD, List.getElem?_eq_getElem hi]; exact b
theorem tup_ask {vs : List Value} {ks : List Int} {ov : Int → Value} {C : Bool → Shared → Prop} (x : TupsAt h vs ks ov) (nd : ks.Nodup) {i j : Nat} (hi : i < ks.length) (hj : j < ks.length) (hij : i ≠ j) (c : C (decide (ks.getD i 0 < ks.getD j 0)) ⟨h, g, dr, t, os⟩) :
    kas_ask PR w A (tuples' true) vs i j C ⟨h, g, dr, t, os⟩ := by
  obtain ⟨T, t1, a1, b1⟩ := x.get hi
  obtain ⟨U, t2, a2, b2⟩ := x.get hj
  unfold kas_ask
  rw [a1, a2]
  refine kat_lt (s := ⟨h, g, dr, t, os⟩) b1 rfl b2 rfl ?_
  refine kat_cons (wpAny_eqBool_int ?_)
  have hne : ks.getD i 0 ≠ ks.getD j 0 := by
    rw [List.getD_eq_getElem?_getD, List.getD_eq_getElem?_getD, List.getElem?_eq_getElem hi, List.getElem?_eq_getElem hj]
    intro e
    have pw := List.pairwise_iff_getElem.mp nd
    rcases Nat.lt_or_gt_of_ne hij with q | q
    · exact pw i j hi hj q e
    · exact pw j i hj hi q e.symm
  rw [beq_eq_false_iff_ne.mpr hne]
  exact kat_no (oneLt_int c)
/-- list.sort of such a row -/
theorem t_sort {l : Addr} {vs : List Value} {ks : List Int} {ov : Int → Value} {c : Nat} {P : PySem.Fin → Shared → Prop} (ho : h.get? l = some (seqObj "list" vs.toArray c)) (x : TupsAt h vs ks ov) (nd : ks.Nodup) (hk : ∀ k ∈ ks, k ∈ K3)
    (kk : ∀ h' vs' c', h'.get? l = some (seqObj "list" vs'.toArray c') → TupsAt h' vs' (K3.filter fun k => ks.contains k) ov → (∀ b o, b ≠ l → h.get? b = some o → h'.get? b = some o) → P (.done (.ret .none)) ⟨h', g, dr, t, os⟩) :
    wpAny (MM w) A (Builtin.«list.sort» ⟨[.ref l], []⟩) P E ⟨h, g, dr, t, os⟩ := by
  have hm := mem_perm16 nd hk
  have ck1 := List.all_eq_true.mp ck_sort ks hm
  have ck2 := List.all_eq_true.mp ck_short ks hm
  have hlen : vs.length ≤ 3 := by
    have := len_of_keys (l := ks.map fun k => (k, ())) (ks := K3) (by rw [List.map_map]; simpa [Function.comp_def] using nd) (fun x hx => by obtain ⟨k, hk', rfl⟩ := List.mem_map.mp hx; exact hk k hk')
    rw [List.length_map] at this
    rw [x.1]; exact this
  have ha : l < h.objs.size := Heap.lt_size ho
  rw [list_sort_plain]
  refine wpAny_bind (listItems_at (s := ⟨h, g, dr, t, os⟩) ho rfl ?_)
  refine wpAny_bind (listUpdate_at (s := ⟨h, g, dr, t, os⟩) ho rfl ?_ (by rw [List.size_toArray, sizeLine_eq]; omega) (Nat.zero_le _))
  obtain ⟨e1, ho1⟩ : ∃ e1, (h.update l (Obj.mapSeq fun _ => (#[] : Array Value))).get? l = some (seqObj "list" #[] e1) := ⟨_, get?_update_seq ho fun _ => #[]⟩
  refine wpAny_bind (seqEpoch_at ho1 rfl ?_)
  refine wpAny_bind (wpAny_newTuple ?_ (by show vs.length ≤ _; rw [sizeLine_eq]; omega))
  refine wpAny_bind (wpAny_newList ?_ (Nat.zero_le _))
  refine wpAny_holding ?_
  have k₀ : ∀ b o, b ≠ l → h.get? b = some o → (((h.update l (Obj.mapSeq fun _ => (#[] : Array Value))).push (seqObj "tuple" vs.toArray 0)).push (seqObj "list" #[] 0)).get? b = some o := fun b o hb e =>
    Heap.get?_push_of_some _ (Heap.get?_push_of_some _ ((Heap.get?_update_other _ _ (Ne.symm hb)).trans e))
  have ho6 : (((h.update l (Obj.mapSeq fun _ => (#[] : Array Value))).push (seqObj "tuple" vs.toArray 0)).push (seqObj "list" #[] 0)).get? l = some (seqObj "list" #[] e1) := Heap.get?_push_of_some _ (Heap.get?_push_of_some _ ho1)
  show wpAny (MM w) A _ P E ⟨((h.update l (Obj.mapSeq fun _ => (#[] : Array Value))).push (seqObj "tuple" vs.toArray 0)).push (seqObj "list" #[] 0), g, dr, t, os⟩
  dsimp only
  generalize ((h.update l (Obj.mapSeq fun _ => (#[] : Array Value))).push (seqObj "tuple" vs.toArray 0)).push (seqObj "list" #[] 0) = h₁ at k₀ ho6 ⊢
  have x₁ : TupsAt h₁ vs ks ov := x.at fun b u v e => k₀ b _ (ne_cls e ho rfl rfl (by decide)) e
  have fin : ∀ vs' : List Value, TupsAt h₁ vs' (K3.filter fun k => ks.contains k) ov → P (.done (.ret .none)) ⟨h₁.update l (Obj.mapSeq fun _ => vs'.toArray), g, dr, t, os⟩ := fun vs' q =>
    kk _ vs' _ (get?_update_seq ho6 fun _ => vs'.toArray) (q.at fun b u v e => (Heap.get?_update_other _ _ (Ne.symm (ne_cls e ho6 rfl rfl (by decide)))).trans e) fun b o hb e => (Heap.get?_update_other _ _ (Ne.symm hb)).trans (k₀ b o hb e)
  by_cases h2 : vs.toArray.size < 2
  · rw [if_pos h2, if_pos h2]
    refine wpAny_bind (wpAny_pure ?_)
    rw [StateT.run_pure]
    refine wpAny_bind (wpAny_pure ?_)
    dsimp only
    have hks : ks = K3.filter fun k => ks.contains k := by
      have : decide (ks.length < 2) = true := by rw [decide_eq_true_iff, ← x.1]; simpa using h2
      rw [this] at ck2
      simpa using ck2
    have earr : (arrOf (SortSt.mk' general' (vs.toArray.zip vs.toArray) #[] 7 none)).map (·.2) = vs.toArray := by
      show (vs.toArray.zip vs.toArray).map (·.2) = _
      apply Array.toList_inj.mp
      simp only [Array.toList_map, Array.toList_zip]
      exact List.map_snd_zip (Nat.le_refl _)
    refine wpAny_bind (seqEpoch_at (s := ⟨h₁, g, dr, t, os⟩) ho6 rfl ?_)
    rw [earr]
    refine wpAny_bind (listUpdate_at (s := ⟨h₁, g, dr, t, os⟩) ho6 rfl ?_ (hsz2 := by rw [List.size_toArray, sizeLine_eq]; omega))
    simp only [bne_self_eq_false, Bool.false_eq_true, if_false]
    exact wpAny_pure (fin vs (hks ▸ x₁))
  · rw [if_neg h2, if_neg h2]
    have h2' : 2 ≤ vs.length := by simpa using h2
    have hks : decide (ks.length < 2) = false := by rw [decide_eq_false_iff_not, ← x.1]; omega
    rw [hks, Bool.false_or] at ck1
    obtain ⟨p, hp⟩ : ∃ p, runB ks.length (fun i j => decide (ks.getD i 0 < ks.getD j 0)) (kas_sort ks.length) = some p := by
      cases q : runB ks.length (fun i j => decide (ks.getD i 0 < ks.getD j 0)) (kas_sort ks.length) with
      | none => rw [q] at ck1; simp at ck1
      | some p => exact ⟨p, rfl⟩
    rw [hp] at ck1
    simp only [Option.map_some, beq_iff_eq, Option.some.injEq, Prod.mk.injEq, List.all_eq_true, decide_eq_true_eq] at ck1
    obtain ⟨cp, cr⟩ := ck1
    have kt : ∀ (vs : List Value) (ks : List Int), TupsAt h₁ vs ks ov → ∃ fs : List Value, fs.length = ks.length ∧ KatTups h₁ vs fs ∧ ∀ v ∈ fs, ∃ k t, v = Value.int k t := by
      intro vs
      induction vs with
      | nil => intro ks y; exact ⟨[], by have := y.1; simpa using this, KatTups.nil, by simp⟩
      | cons v vs ih =>
        intro ks y
        match ks, y with
        | [], y => have := y.1; simp at this
        | k :: ks, y =>
          obtain ⟨T, tk, e, q⟩ := y.2 0 v k rfl rfl
          obtain ⟨fs, f1, f2, f3⟩ := ih ks ⟨by have := y.1; simpa using this, fun i v k a b => y.2 (i + 1) v k a b⟩
          subst e
          refine ⟨.int k tk :: fs, by simp [f1], KatTups.cons q rfl rfl rfl f2, ?_⟩
          intro u hu
          rcases List.mem_cons.mp hu with rfl | hu
          · exact ⟨k, tk, rfl⟩
          · exact f3 u hu
    obtain ⟨fs, f1, f2, f3⟩ := kt vs ks x₁
    refine wpAny_bind (kat_kind (s := ⟨h₁, g, dr, t, os⟩) (T := .type "int") f2 (by rw [f1, ← x.1]; omega) (fun v hv => ?_) rfl ?_)
    · obtain ⟨k, tk, rfl⟩ := f3 v hv
      exact Looks.of_pure rfl
    have ek : (Value.type "int" != Value.type "tuple") = true := by decide
    rw [ek]
    refine wpAny_bind (wpAny_mono (kat_run (κ := tuples' true) (ks := vs) (vs := vs) (s := ⟨h₁, g, dr, t, os⟩) (Q := fun st' s' => s' = ⟨h₁, g, dr, t, os⟩ ∧ failedOf st' = none ∧ (arrOf st').map (·.2) = List.toArray (p.toList.map fun i => vs.getD i Value.none))
      (G := fun p' s' => p' = p ∧ s' = ⟨h₁, g, dr, t, os⟩) rfl h2' (by omega) (fun p' st' s' a1 a2 a3 a4 => ⟨a4.2, a3, by rw [kat_snds rfl a2, a4.1]⟩) ?_) ?_ fun _ _ e => e)
    · rw [x.1]
      exact kas_pureB (fun i j C hi hj hij c => tup_ask x₁ nd hi hj hij c) _ p hp ⟨rfl, rfl⟩
    rintro ⟨⟨⟩, st'⟩ s' ⟨rfl, hf, har⟩
    dsimp only
    refine wpAny_bind (seqEpoch_at (s := ⟨h₁, g, dr, t, os⟩) ho6 rfl ?_)
    rw [har]
    have plen : p.toList.length = (K3.filter fun k => ks.contains k).length := by rw [← cp, List.length_map]
    have pl3 : p.toList.length ≤ 3 := by rw [plen]; exact List.length_filter_le _ _
    refine wpAny_bind (listUpdate_at (s := ⟨h₁, g, dr, t, os⟩) ho6 rfl ?_ (hsz2 := by rw [List.size_toArray, List.length_map, sizeLine_eq]; omega))
    rw [hf]
    simp only [bne_self_eq_false, Bool.false_eq_true, if_false]
    refine wpAny_pure (fin _ ⟨by rw [List.length_map]; exact plen, fun i v k ev ek => ?_⟩)
    rw [← cp, List.getElem?_map] at ek
    rw [List.getElem?_map] at ev
    cases hpi : p.toList[i]? with
    | none => rw [hpi] at ev; cases ev
    | some q =>
      rw [hpi] at ev ek
      cases ev; cases ek
      obtain ⟨T, tk, a, b⟩ := x₁.get (cr q (List.mem_of_getElem? hpi))
      exact ⟨T, tk, a, b⟩
end
end
end Mine
namespace Mine
noncomputable section
/-- the code of items and its table -/
noncomputable def Cd (h : Heap) : Prop := ∃ ps, h.IsCode 85 81 ps ∧ h.TableAt 85 81 ps
theorem Cd.keep {h h' : Heap} (x : Cd h) (k : Keep h h') : Cd h' := let ⟨ps, c, d⟩ := x; ⟨ps, c.keeps k, d.keeps k⟩
theorem Cd.at81 {h : Heap} (x : Cd h) : ∃ o ps, h.get? 81 = some o ∧ o.data = .fields ps := by
  obtain ⟨ps, _, _, h1⟩ := x
  exact ⟨_, ps, h1, rfl⟩
theorem Cd.chg {h h' : Heap} {l : List Addr} (x : Cd h) (c : Chg l h h') (n1 : 81 ∉ l) (n2 : 85 ∉ l) : Cd h' := by
  obtain ⟨ps, ⟨o, vs, file, tf, flags, tg, inF, text, tt, op, a, r1, r2, r3, r4, r5, r6, b, r⟩, ⟨o', vs', a', s⟩, b'⟩ := x
  exact ⟨ps, ⟨o, vs, file, tf, flags, tg, inF, text, tt, op, c _ _ n2 a, r1, r2, r3, r4, r5, r6, c _ _ n1 b, r⟩, ⟨o', vs', c _ _ n2 a', s⟩, c _ _ n1 b'⟩
/-- the code of the generator expression, made once -/
theorem gx_code {M : Model} {A : Around} {E : Value → Shared → Prop} {h : Heap} {g : Array GenState} {dr : Drawn} {t : Nat} {os : OsState} {env : Env} {pos : Pos} {qn : Str} {scope : Scope} {Q : Value → Shared → Prop} (hc : env.code = .ref 85) (C : Cd h)
    (hQ : ∀ code h' t', Heap.ExtBut 81 h h' → Cd h' → Q code ⟨h', g, dr, t', os⟩) : wpAny M A (genexprCode env pos qn scope) Q E ⟨h, g, dr, t, os⟩ := by
  obtain ⟨ps, c1, c2⟩ := id C
  cases hf : codeAmong pos ps.toList with
  | some cv => exact wpAny_genexprCode_hit (s := ⟨h, g, dr, t, os⟩) hc c1 hf (hQ cv h t (Heap.ExtBut.refl _ _) C)
  | none => exact wpAny_genexprCodeX (s := ⟨h, g, dr, t, os⟩) hc c1 c2 hf fun c' h' tk x _ _ i _ tb _ => hQ _ h' tk x ⟨_, i, tb⟩
theorem Cd.notup {h : Heap} (x : Cd h) : ∀ a ∈ [81], ∀ u v, h.get? a ≠ some (tup2 u v) := by
  intro a ha u v e
  rw [List.mem_singleton] at ha; subst ha
  obtain ⟨o, ps, h1, h2⟩ := x.at81
  rw [h1] at e; cases e; cases h2
section
variable {w : World} {h₀ h h' : Heap} {p : Ptr} {D O : List (Int × Value)} {S G N : Int → Bool} {tv : Int → Option (Option Bool)} {bf : Int → Option Bool} {nf : Int → Bool}
theorem AS.no81 (x : AS w h₀ h p D O S G N) (c : Cd h) : 81 ∉ p.addrs := by
  obtain ⟨o, ps, h1, h2⟩ := c.at81
  intro ha
  simp only [Ptr.addrs, List.mem_cons, List.not_mem_nil, or_false] at ha
  rcases ha with e | e | e | e | e | e | e
  · have := x.inst; rw [← e, h1] at this; cases this; cases h2
  · obtain ⟨_, _, _, ho, hd, _⟩ := x.att; rw [← e, h1] at ho; cases ho; rw [h2] at hd; cases hd
  · obtain ⟨_, _, _, ho, _, hd, _⟩ := x.data; rw [← e, h1] at ho; cases ho; rw [h2] at hd; cases hd
  · obtain ⟨_, _, _, ho, _, hd, _⟩ := x.orig; rw [← e, h1] at ho; cases ho; rw [h2] at hd; cases hd
  · obtain ⟨_, _, _, _, _, _, ho, hd, _⟩ := x.seen; rw [← e, h1] at ho; cases ho; have := hd.data; rw [h2] at this; cases this
  · obtain ⟨_, _, _, _, _, _, ho, hd, _⟩ := x.asg; rw [← e, h1] at ho; cases ho; have := hd.data; rw [h2] at this; cases this
  · obtain ⟨_, _, _, _, _, _, ho, hd, _⟩ := x.newk; rw [← e, h1] at ho; cases ho; have := hd.data; rw [h2] at this; cases this
theorem dict_no81 {a : Addr} {kvs : List (Int × Value)} (x : h.DictOf (IK w) a kvs) (c : Cd h) : a ≠ 81 := by
  obtain ⟨o, ps, h1, h2⟩ := c.at81
  rintro rfl
  obtain ⟨_, _, _, ho, _, hd, _⟩ := x
  rw [h1] at ho; cases ho; rw [h2] at hd; cases hd
theorem LogAt.c81 {d : Addr} {L : List (Int × Option Bool × Option Bool)} (x : LogAt w h d L) (c : Cd h) (k : Chg [81] h h') : LogAt w h' d L :=
  x.chg k (by rw [List.mem_singleton]; obtain ⟨_, q, _⟩ := x; exact dict_no81 q c) c.notup
theorem St.c81 (x : St w h₀ h p tv bf nf) (c : Cd h) (k : Chg [81] h h') : St w h₀ h' p tv bf nf := by
  obtain ⟨D, Ol, S, G, N, X, r, cv⟩ := id x
  refine x.chg k c.notup (fun a ha => by rw [List.mem_singleton]; rintro rfl; exact X.no81 c ha) fun d q => ?_
  rw [List.mem_singleton]
  rcases cv with e | ⟨d', e, _, _, dd, _⟩
  · rw [e] at q; cases q
  · rw [e] at q; cases q; exact dict_no81 dd c
theorem St.no81 (x : St w h₀ h p tv bf nf) (c : Cd h) : 81 ∉ p.addrs := let ⟨_, _, _, _, _, X, _, _⟩ := x; X.no81 c
/-- the base knows nothing of 81 -/
theorem Keep.c81 (k : Keep h₀ h) (c : Chg [81] h h') (n : h₀.get? 81 = none) : Keep h₀ h' := k.chg c fun a ha => by rw [List.mem_singleton] at ha; rw [ha]; exact n
end
theorem b_sorted (w : World) : nsIn (KK w) mainGlobals "sorted" = some none := by kernel_rfl
noncomputable def geScope (w : World) : Scope := match bdOf (fdOf (ob86 w).1) with | (.Return (some (.Call _ [.GeneratorExp _ _ sc _] _ _)) _) :: _ => sc | _ => default
theorem bf_ok {w : World} {A : Around} {E : Value → Shared → Prop} {h₀ h : Heap} {g : Array GenState} {dr : Drawn} {t : Nat} {os : OsState} {r : Addr} {Q : Addr → Shared → Prop} (G : Good0 w h₀) (k : Keep h₀ h) (kk : Q builtinsNs ⟨h, g, dr, t, os⟩) :
    wpAny (MM w) A (builtinsFor mainGlobals r) Q E ⟨h, g, dr, t, os⟩ := by
  unfold builtinsFor
  refine wpAny_bind ((looks_nsIn (G.X.keeps k) (show nsIn (KK w) mainGlobals "__builtins__" = some (some (.ref 4)) by kernel_rfl)).here ?_)
  obtain ⟨ob, ho, hc, hd, hp⟩ := (G.keep k).bm
  show wpAny _ _ (if ((4 : Addr) == builtinsNs) = true then _ else _) _ _ _
  rw [if_neg (by decide)]
  refine wpAny_bind (wpAny_load ho ?_)
  rw [hp, hd]
  dsimp only
  rw [if_pos (by rw [hc]; rfl)]
  exact wpAny_pure kk
section
variable {w : World} {A : Around} {E : Value → Shared → Prop} {h₀ h : Heap} {g : Array GenState} {dr : Drawn} {t : Nat} {os : OsState} {p : Ptr} {D O : List (Int × Value)} {S Gs N : Int → Bool} {Q : Value → Shared → Prop}
theorem setD_walk {o : Obj} {st : SSt} {es : Array (Int × Value)} {ep fg mv : Nat} {a : Addr} (d : SetD w o st es ep fg mv) : ∃ ks : List Int, ks.Perm st.2.2 ∧ ks.length = es.size ∧
    ∀ (i : Nat) (v : Value), (walkOf w a ep es)[i]?.map (·.2) = some v → ∃ (k : Int) (t : Tok), ks[i]? = some k ∧ v = .int k t := by
  refine ⟨(walkOf w a ep es).toList.map (·.1), ?_, ?_, fun i v e => ?_⟩
  · rw [← d.keys]; exact (walk_perm w a ep es).map _
  · rw [List.length_map, (walk_perm w a ep es).length_eq, Array.length_toList]
  · cases q : (walkOf w a ep es)[i]? with
    | none => rw [q] at e; cases e
    | some x =>
      rw [q] at e; cases e
      have hm : x ∈ es.toList := (walk_perm w a ep es).mem_iff.mp (Array.mem_toList_iff.mpr (Array.mem_of_getElem? q))
      obtain ⟨tk, hx⟩ := d.allInt x hm
      exact ⟨x.1, tk, by rw [List.getElem?_map, Array.getElem?_toList, q]; rfl, hx⟩
/-- self.NAME where self is a free name -/
theorem n_attF {np pos : Pos} {name : Str} {v : Value} {c : Addr} {env : Env} (G : Good0 w h₀) (k : Keep h₀ h) (hce : h.IsCell c (some (.ref p.x))) (X : AS w h₀ h p D O S Gs N) (hc : findIn (KK w) (.ref 170) name = some none)
    (kk : ∀ t', Q v ⟨h, g, dr, t', os⟩) (hv : atts p name = some v := by rfl) (hh : handedIn v = true := by rfl)
    (hk : env.scope.kind = .function := by rfl) (hl : env.kindOf "self" = some .free := by rfl) (hlc : env.cells.lookup ("self" : Str) = some c := by rfl) :
    wpAny (MM w) A (eval (.Attribute (.Name "self" np) name pos) env) Q E ⟨h, g, dr, t, os⟩ :=
  Attribute_name (wpAny_Name (wpAny_loadName_free (s := ⟨h, g, dr, t, os⟩) hk hl hlc hce (m_getattr (G.X.keeps k) X.inst X.att.ns hv hc hh kk)) (by decide))
theorem items_ok (G : Good0 w h₀) (k : Keep h₀ h) (n81 : h₀.get? 81 = none) (hroom : A.depth + 4 < recursionLimit) (hh : A.handled = none) (X : AS w h₀ h p D O S Gs N) (hc : Cd h)
    (kk : ∀ h' t' g' l vs c', (AllBare g → AllBare g') → h.objs.size ≤ l → h'.get? l = some (seqObj "list" vs.toArray c') → TupsAt h' vs (elts S) (fun k => (valueAt D k).getD .none) → Chg [81] h h' → Cd h' → Q (.ref l) ⟨h', g', dr, t', os⟩) :
    wpAny (MM w) A (call (.ref 86) [.ref p.x]) Q E ⟨h, g, dr, t, os⟩ := by
  refine m_callC (binds := [("self", .ref p.x)]) G k (by omega) (fn86 w) (by kernel_rfl) (by kernel_rfl) (fun x hx => by rw [List.mem_singleton] at hx; subst hx; exact .inr ⟨by kernel_rfl, by kernel_rfl⟩) ?_
  intro h₁ t₁ fm ce
  have hce : h₁.IsCell (h.objs.size + 1) (some (.ref p.x)) := ce "self" _ rfl
  have X₁ := X.ext fm.ext X.fresh
  have k₁ : Keep h h₁ := fm.out (Nat.le_refl _)
  have hc₁ := hc.keep k₁
  refine wpAny_execs_cons (wpAny_Return_some (n_bf1 G fm boot_sorted (b_sorted w) ?_))
  refine wpAny_GeneratorExp_make (cl := [("self", h.objs.size + 1)]) rfl rfl (by decide) rfl rfl (by show A.depth + 1 < _; omega) ?_ (fun _ => rfl)
  refine n_attC G fm.base hce X₁ (a_seen w) fun t' => ?_
  obtain ⟨o, st, es, ep, fg, mv, ho, d, r⟩ := X₁.seen
  refine m_siter ho d fun hI => ⟨?_, ?_⟩
  · exact ((G.keep fm.base).lim).keeps fun b o e => Heap.get?_push_of_some _ e
  have k₂ : Keep h₁ (h₁.push (iterObj 0 0 p.seen es.size ep)) := fun b o e => Heap.get?_push_of_some _ e
  have z₂ : (h₁.push (iterObj 0 0 p.seen es.size ep)).objs.size = h₁.objs.size + 1 := Heap.size_push ..
  generalize h₁.push (iterObj 0 0 p.seen es.size ep) = h₂ at hI k₂ z₂ ⊢
  have hps := hc₁.keep k₂
  refine gx_code (by kernel_rfl) hps fun code h₃ t₃ x₃ c₃ => ?_
  replace x₃ : Heap.ExtBut 81 h₂ h₃ := x₃
  have c23 : Chg [81] h₂ h₃ := fun b o n e => x₃ b o (by simpa using n) e
  have kb₂ : Keep h₀ h₂ := fm.base.trans k₂
  have kb₃ : Keep h₀ h₃ := kb₂.c81 c23 n81
  have hc₂ : Cd h₂ := hps
  have X₂ := X₁.keep k₂
  have X₃ : AS w h₀ h₃ p D O S Gs N := X₂.of fun a ha o e => x₃ a o (fun q => X₂.no81 hc₂ (q ▸ ha)) e
  have up3 : ∀ b o, b ≠ 81 → h₁.get? b = some o → h₃.get? b = some o := fun b o n e => x₃ b o n (k₂ b o e)
  have z1 : h.objs.size < h₁.objs.size := fm.ns.lt
  have hcl : h.objs.size + 1 < h₁.objs.size := let ⟨_, ho, _⟩ := hce; Heap.lt_size ho
  have hce₃ : h₃.IsCell (h.objs.size + 1) (some (.ref p.x)) := by
    obtain ⟨oc, ho, hd⟩ := hce
    refine ⟨oc, up3 _ _ ?_ ho, hd⟩
    rintro e
    obtain ⟨o81, ps81, h81, hf⟩ := hc₁.at81
    rw [← e, ho] at h81; cases h81; rw [hd] at hf; cases hf
  refine bf_ok G kb₃ fun h₄ n₄ s₄ => ?_
  dsimp only at n₄ s₄ ⊢
  have up4 : Keep h₃ h₄ := fun b o e => s₄.extBut b o (Nat.ne_of_lt (Heap.lt_size e)) (Heap.get?_push_of_some _ e)
  have z₄ : h₄.objs.size = h₃.objs.size + 1 := s₄.1.trans (Heap.size_push ..)
  have k₅ : Keep h₄ (h₄.push { cls := .type "generator", data := .fields #[.int g.size 0, .str "<genexpr>" (t₃ + 1), .str ((envC (ob86 w).1 86 h.objs.size).qual ++ "<genexpr>") (t₃ + 1 + 1)] }) := fun b o e => Heap.get?_push_of_some _ e
  have hG : (h₄.push { cls := .type "generator", data := .fields #[.int g.size 0, .str "<genexpr>" (t₃ + 1), .str ((envC (ob86 w).1 86 h.objs.size).qual ++ "<genexpr>") (t₃ + 1 + 1)] }).IsGen h₄.objs.size g.size := ⟨_, _, _, Heap.get?_push_size _ rfl, rfl, rfl, rfl⟩
  have z₅ : (h₄.push { cls := .type "generator", data := .fields #[.int g.size 0, .str "<genexpr>" (t₃ + 1), .str ((envC (ob86 w).1 86 h.objs.size).qual ++ "<genexpr>") (t₃ + 1 + 1)] }).objs.size = h₄.objs.size + 1 := Heap.size_push ..
  generalize (h₄.push { cls := .type "generator", data := .fields #[.int g.size 0, .str "<genexpr>" (t₃ + 1), .str ((envC (ob86 w).1 86 h.objs.size).qual ++ "<genexpr>") (t₃ + 1 + 1)] }) = h₅ at k₅ hG z₅ ⊢
  obtain ⟨ks, kperm, klen, kwalk⟩ := setD_walk (a := p.seen) d
  have elp := d.perm r
  have kp : ks.Perm (elts S) := kperm.trans elp
  have big : 203 < h.objs.size := G.size k
  have bigI : 203 < h₁.objs.size := Nat.lt_trans big z1
  have I3 : h₁.objs.size < h₃.objs.size := by
    obtain ⟨_, sl, hIo, _⟩ := hI
    exact Heap.lt_size (x₃ _ _ (Nat.ne_of_gt (Nat.lt_trans (by decide) bigI)) hIo)
  have hI3 : SIter w o st es.size ep h₁.objs.size p.seen 0 h₃ := by
    obtain ⟨a1, sl, a2, a3⟩ := hI
    exact ⟨x₃ _ _ (fun q => X₂.no81 hc₂ (q ▸ (by simp))) a1, sl, x₃ _ _ (Nat.ne_of_gt (Nat.lt_trans (by decide) bigI)) a2, a3⟩
  have lI : h₀.get? h₁.objs.size = none := low_size fm.base (Nat.le_refl _)
  have pI : ∀ b ∈ p.addrs, b < h₁.objs.size := fun b hb => X₁.lt b hb
  have sI : p.seen ≠ h₁.objs.size := Nat.ne_of_lt (pI _ (by simp))
  -- the element
  have helt : ∀ (A' : Around) (E' : Value → Shared → Prop) (i : Nat) (v : Value) (s₂ : Shared) (m₂ : Str → Option Value), A'.handled = none → i < es.size → (walkOf w p.seen ep es)[i]?.map (·.2) = some v → s₂.heap.Ns h₃.objs.size m₂ → m₂ "k" = some v →
      (∀ b o, b < h₃.objs.size → b ≠ h₁.objs.size → h₃.get? b = some o → s₂.heap.get? b = some o) →
      wpAny (MM w) A' (eval (.Tuple [.Name "k" ⟨55, 24, 55, 25⟩, .Call (.Attribute (.Attribute (.Name "self" ⟨55, 27, 55, 31⟩) "_data" ⟨55, 27, 55, 37⟩) "get" ⟨55, 27, 55, 41⟩) [.Name "k" ⟨55, 42, 55, 43⟩] [] ⟨55, 27, 55, 44⟩] 0 ⟨55, 23, 55, 45⟩)
        (genEnv (geScope w) [("self", h.objs.size + 1)] h₃.objs.size code builtinsNs (envC (ob86 w).1 86 h.objs.size)))
        (fun y s₃ => (∃ (T : Addr) (t : Tok), y = .ref T ∧ T ≠ h₃.objs.size ∧ T ≠ h₁.objs.size ∧ ∃ k, ks[i]? = some k ∧ s₃.heap.get? T = some (tup2 (.int k t) ((valueAt D k).getD .none))) ∧ Keeps s₂ s₃) E' s₂ := by
    intro A' E' i v s₂ m₂ _ _ hv hn hm hkp
    obtain ⟨k, tk, hk, rfl⟩ := kwalk i v hv
    obtain ⟨hq, g', dr', t', os'⟩ := s₂
    dsimp only at hn hkp ⊢
    have Xq : AS w h₀ hq p D O S Gs N := X₃.of fun a ha o e => hkp a o (Heap.lt_size e) (Nat.ne_of_lt (pI a ha)) e
    have kq : Keep h₀ hq := fun b o e => hkp b o (Heap.lt_size (kb₃ b o e)) (by rintro rfl; rw [lI] at e; cases e) (kb₃ b o e)
    have cq : hq.IsCell (h.objs.size + 1) (some (.ref p.x)) := by
      obtain ⟨oc, ho, hd⟩ := hce₃
      exact ⟨oc, hkp _ _ (Heap.lt_size ho) (Nat.ne_of_lt hcl) ho, hd⟩
    refine wpAny_Tuple (args_cons (wpAny_Name (wpAny_loadName_local rfl rfl hn hm ?_) (by decide)) rfl)
    refine args_cons (n_bm1 F.plainAttrs_dict F.slot_dict_get F.type_dict_get (n_attF (c := h.objs.size + 1) G kq cq Xq (a_data w) fun t'' => ⟨_, rfl, DictOf_ob Xq.data, wpAny_Name (wpAny_loadName_local rfl rfl hn hm (n_get1 (k := k) (tk := tk) Xq.data (X.sys _ (by simp)) fun t3 => args_nil ⟨by rw [sizeLine_eq]; show 2 ≤ _; decide, ?_⟩)) (by decide)⟩)) rfl
    have ltC : h₃.objs.size < hq.objs.size := hn.lt
    exact ⟨⟨hq.objs.size, tk, rfl, Nat.ne_of_gt ltC, Nat.ne_of_gt (Nat.lt_trans I3 ltC), k, hk, Heap.get?_push_size _ rfl⟩, _, _, rfl, fun b o e => Heap.get?_push_of_some _ e⟩
  refine Calls.call_function_entry kind_sorted plain_sorted entry_sorted (args_sorted1 _) ?_
  unfold Builtin.«sorted»
  refine wpAny_bind (m := checkCount "sorted" 1 1 _) (wpAny_pure ?_)
  have le3 : es.size ≤ 3 := d.le3
  have ne1 : h₄.objs.size ≠ h₃.objs.size := by omega
  have ne2 : h₄.objs.size ≠ h₁.objs.size := by omega
  have cs1 : cStatics ≠ h₃.objs.size := Nat.ne_of_lt (Nat.lt_trans (show cStatics < 203 by decide) (Nat.lt_trans bigI I3))
  have cs2 : cStatics ≠ h₁.objs.size := Nat.ne_of_lt (Nat.lt_trans (show cStatics < 203 by decide) bigI)
  refine wpAny_bind (g_collect (s := ⟨h₅, _, dr, _, os⟩) (C := h₃.objs.size) (I := h₁.objs.size) (N₀ := h₃.objs.size) (n := es.size) (gi := g.size)
    (F := fun i y h' => ∃ (T : Addr) (t : Tok), y = .ref T ∧ T ≠ h₃.objs.size ∧ T ≠ h₁.objs.size ∧ ∃ k, ks[i]? = some k ∧ h'.get? T = some (tup2 (.int k t) ((valueAt D k).getD .none))) hh (by show A.depth + 1 < _; omega) ne1 ne2 cs1 cs2
    (fun i y hx hy ⟨T, t, e1, e2, e3, k, e4, e5⟩ kk' => ⟨T, t, e1, e2, e3, k, e4, kk' T _ _ e2 e3 e5⟩) (by omega) (by show h₃.objs.size ≤ h₅.objs.size; omega) (by show h₃.objs.size < h₅.objs.size; omega) (by show h₁.objs.size < h₅.objs.size; omega) ?_ fun s' ys hl hF hfin hg => ?_)
  · refine ⟨hG, ((G.keep kb₃).lim).keeps fun b o e => k₅ b o (up4 b o e), _, Array.getElem?_push_size, fun s'' hal => ⟨rfl, ?_⟩⟩
    refine sg_start (A := (A.deeper (envC (ob86 w).1 86 h.objs.size)).in1.in1.in1) (href := h₃) (sa := p.seen) (St₀ := SIter w o st es.size ep h₁.objs.size p.seen) hh (fun A' hA' => walks_set hA' d sI) I3 (Nat.lt_trans (pI _ (by simp)) I3) (Nat.le_refl _) rfl rfl rfl rfl helt s'' _ ?_ (n₄.at' fun o e => hal _ o (.inr rfl) (k₅ _ o e)) (fun b o hb _ e => hal b o (.inl hb) (k₅ b o (up4 b o e)))
    obtain ⟨a1, sl, a2, a3⟩ := hI3
    exact ⟨hal _ _ (.inl (Heap.lt_size a1)) (k₅ _ _ (up4 _ _ a1)), sl, hal _ _ (.inl (Heap.lt_size a2)) (k₅ _ _ (up4 _ _ a2)), a3⟩
  obtain ⟨h₆, g₆, t₆, rfl, go, k₆⟩ := hg
  dsimp only at hF hfin go k₆ ⊢
  refine wpAny_bind (wpAny_newList ?_ (by rw [hl, sizeLine_eq]; omega))
  have hoL : (h₆.push (seqObj "list" ys.toArray 0)).get? h₆.objs.size = some (seqObj "list" ys.toArray 0) := Heap.get?_push_size _ rfl
  have k₇ : Keep h₆ (h₆.push (seqObj "list" ys.toArray 0)) := fun b o e => Heap.get?_push_of_some _ e
  have tups : TupsAt (h₆.push (seqObj "list" ys.toArray 0)) ys ks (fun k => (valueAt D k).getD .none) := by
    refine ⟨hl.trans klen.symm, fun i v k ev ek => ?_⟩
    obtain ⟨T, tk, e1, _, _, k', e4, e5⟩ := hF i v ev
    rw [ek] at e4; cases e4
    exact ⟨T, tk, e1, k₇ _ _ e5⟩
  have hkk : (K3.filter fun k => ks.contains k) = elts S := by
    refine List.filter_congr fun k hk => ?_
    rw [Bool.eq_iff_iff, List.contains_iff_mem, kp.mem_iff, List.mem_filter]
    exact ⟨fun q => q.2, fun q => ⟨hk, q⟩⟩
  have knd : ks.Nodup := kp.nodup_iff.mpr (List.Pairwise.filter _ (by decide))
  refine wpAny_bind (wpAny_holding (wpAny_call_entry slot_list_sort ⟨_, hoL, rfl⟩ entry_list_sort (t_sort hoL tups knd (fun k hk => (List.mem_filter.mp (kp.mem_iff.mp hk)).1) fun h₈ vs' c' l8 t8 k8 => ⟨_, rfl, ?_⟩) (args_list_sort _)))
  rw [hkk] at t8
  have z6 : h₅.objs.size ≤ h₆.objs.size := by
    obtain ⟨og, _, _, ho5, _⟩ := hG
    rw [z₅]
    exact Nat.succ_le_of_lt (Heap.lt_size (k₆ _ _ ne1 ne2 ho5))
  have ch3 : Chg [h₃.objs.size, h₁.objs.size, h₆.objs.size] h₃ h₈ := fun b o n e => by
    simp only [List.mem_cons, List.not_mem_nil, or_false, not_or] at n
    exact k8 b o n.2.2 (k₇ b o (k₆ b o n.1 n.2.1 (k₅ b o (up4 b o e))))
  have bigN : ∀ n : Nat, n ≤ 203 → n ∉ [h₃.objs.size, h₁.objs.size, h₆.objs.size] := fun n hn e => by
    simp only [List.mem_cons, List.not_mem_nil, or_false] at e
    omega
  refine wpAny_pure ⟨_, rfl, ?_⟩
  refine kk h₈ t₆ g₆ h₆.objs.size vs' c' (fun ab y hy => ?_) (by omega) l8 t8 (fun b o n e => ?_) (Cd.chg c₃ ch3 (bigN 81 (by decide)) (bigN 85 (by decide)))
  · obtain ⟨i, hi, rfl⟩ := Array.mem_iff_getElem.mp hy
    by_cases q : i = g.size
    · have : g₆[i]? = some .finished := by rw [q]; exact hfin
      rw [Array.getElem?_eq_getElem hi] at this
      rw [Option.some.inj this]; rfl
    · have e1 := go.2 i q
      rw [Array.getElem?_eq_getElem hi, Array.getElem?_push, if_neg q] at e1
      exact ab _ (Array.mem_of_getElem? e1.symm)
  · have lt := Heap.lt_size e
    refine ch3 b o ?_ (x₃ b o (by simpa using n) (k₂ b o (k₁ b o e)))
    simp only [List.mem_cons, List.not_mem_nil, or_false, not_or]
    exact ⟨Nat.ne_of_lt (Nat.lt_trans lt (Nat.lt_trans z1 I3)), Nat.ne_of_lt (Nat.lt_trans lt z1), Nat.ne_of_lt (Nat.lt_of_lt_of_le (Nat.lt_trans lt (Nat.lt_trans z1 I3)) (by omega))⟩
end
end
end Mine
namespace Mine
noncomputable section
section
variable {w : World} {A : Around} {E : Value → Shared → Prop} {env : Env} {g : Array GenState} {dr : Drawn} {os : OsState} {h : Heap} {t : Nat}
/-- what a round of a comprehension over a list must do -/
noncomputable abbrev Round (w : World) (A : Around) (g : Array GenState) (dr : Drawn) (os : OsState) (elt target : PySem.Expr) (ifs : List PySem.Expr) (cenv : Env) (C I : Addr) (v : Value) (i : Nat) (ys : List Value) (J : Nat → List Value → Heap → Prop) (h : Heap) (t : Nat) : Prop :=
  wpAny (MM w) A (letOwnedTupleGo target (.ref I) v) (fun _ s₃ => wpAny (MM w) A (assign target cenv v) (fun _ s₄ => wpAny (MM w) A (testsOf ifs cenv) (fun ok s₅ =>
    if ok = true then wpAny (MM w) A (eval elt cenv) (fun y s₆ => ∃ h₆ m₆ t₆, s₆ = ⟨h₆, g, dr, t₆, os⟩ ∧ Heap.ExtBut C h h₆ ∧ h₆.Ns C m₆ ∧ J (i + 1) (ys ++ [y]) h₆) (fun _ _ => False) s₅
    else ∃ h₅ m₅ t₅, s₅ = ⟨h₅, g, dr, t₅, os⟩ ∧ Heap.ExtBut C h h₅ ∧ h₅.Ns C m₅ ∧ J (i + 1) ys h₅) (fun _ _ => False) s₄) (fun _ _ => False) s₃) (fun _ _ => False) ⟨h, g, dr, t, os⟩
/-- what holds of J: it leans on the row so far and on tuples alone -/
noncomputable abbrev TupStable (J : Nat → List Value → Heap → Prop) : Prop := ∀ i ys h h', J i ys h → (∀ b u v, h.get? b = some (tup2 u v) → h'.get? b = some (tup2 u v)) → J i ys h'
theorem lc_list {elt target iter : PySem.Expr} {ifs : List PySem.Expr} {scope : Scope} {cl : List (Str × Addr)} {pos : Pos} {a : Addr} {vs : List Value} {J : Nat → List Value → Heap → Prop} {RR : Value → Addr → Result → Shared → Prop}
    (hh : A.handled = none) (hl : h.IsList a vs.toArray) (hn : vs.length < 1000) (hcell : ∀ y ∈ scope.names, y.2 ≠ .cell) (hkind : scope.kind = .function) (hJ : TupStable J) (hJ0 : J 0 [] h)
    (step : ∀ C I i v h' t' m ys, h.objs.size ≤ C → i < vs.length → vs[i]? = some v → ys.length ≤ i → h'.Ns C m → Keep h h' → h'.IsListIter I a (i + 1) → J i ys h' → Round w A g dr os elt target ifs (compEnvC scope cl C env) C I v i ys J h' t')
    (fin : ∀ C D h' t' m ys, h.objs.size ≤ C → h.objs.size ≤ D → C ≠ D → ys.length ≤ vs.length → h'.Ns C m → h'.PlainList D ys.toArray → Keep h h' → J vs.length ys h' → RR (.ref D) C (.ok .next) ⟨h', g, dr, t', os⟩) :
    wpAny (MM w) A (pyIter (.ref a)) (fun it s₂ => wpAny (MM w) A (newList []) (fun acc s₃ => wpAny (MM w) A (newFunctionEnv scope env.globals cl [] env.qual none .none (some env)) (fun cenv s₄ =>
      codeAny (MM w) A (.compStart (.ListComp elt [⟨target, iter, ifs, 0⟩] scope pos) 0 it acc { cenv with scope := relabel scope env }) (RR acc cenv.locals) s₄) E s₃) E s₂) E ⟨h, g, dr, t, os⟩ := by
  refine wpAny_pyIter_list (s := ⟨h, g, dr, t, os⟩) hl ?_
  have k₂ : Keep h (h.push { cls := .type "list_iterator", data := .fields #[.ref a, .int 0 0] }) := fun b o e => Heap.get?_push_of_some _ e
  have z₂ : (h.push { cls := .type "list_iterator", data := .fields #[.ref a, .int 0 0] }).objs.size = h.objs.size + 1 := Heap.size_push ..
  have it₂ : (h.push { cls := .type "list_iterator", data := .fields #[.ref a, .int 0 0] }).IsListIter h.objs.size a 0 := ⟨_, Heap.get?_push_size _ rfl, rfl, rfl⟩
  show wpAny _ _ _ _ _ ⟨h.push { cls := .type "list_iterator", data := .fields #[.ref a, .int 0 0] }, g, dr, t, os⟩
  generalize h.push { cls := .type "list_iterator", data := .fields #[.ref a, .int 0 0] } = h₂ at k₂ z₂ it₂ ⊢
  have hlt : a < h.objs.size := let ⟨_, ho, _⟩ := hl; Heap.lt_size ho
  have up : ∀ (h' : Heap), (∀ b o, b ∉ [h.objs.size] → h₂.get? b = some o → h'.get? b = some o) → Keep h h' := fun h' q b o e => q b o (by rw [List.mem_singleton]; exact Nat.ne_of_lt (Heap.lt_size e)) (k₂ b o e)
  let J' : Nat → List Value → Heap → Prop := fun i ys h' => ∀ h'' : Heap, (∀ b u v, b ≠ h.objs.size → h'.get? b = some (tup2 u v) → h''.get? b = some (tup2 u v)) → J i ys h''
  have down : ∀ i ys h', J' i ys h' → J i ys h' := fun i ys h' q => q h' fun _ _ _ _ e => e
  have up' : ∀ i ys (h' : Heap), (∀ u v, h'.get? h.objs.size ≠ some (tup2 u v)) → J i ys h' → J' i ys h' := fun i ys h' n q h'' ag => hJ i ys h' h'' q fun b u v e => ag b u v (by rintro rfl; exact n u v e) e
  refine p_comp (g := g) (dr := dr) (os := os) (J := J') (W := Walks.list hh h.objs.size a (Nat.ne_of_lt hlt) vs.toArray) (by simpa using hn) ⟨it₂, hl.at fun o e => k₂ _ o e⟩ (fun b hb => ?_) hcell hkind (fun i ys h1 h2 j q h3 ag => j h3 fun b u v nb e => ag b u v nb (q b _ (by simpa using nb) rfl ⟨_, _, rfl⟩ e))
    (up' 0 [] h₂ (fun u v e => by obtain ⟨_, ho, hc, _⟩ := it₂; exact ne_cls e ho rfl hc (by decide) rfl) (hJ _ _ _ _ hJ0 fun b u v e => k₂ b _ e))
    (fun C i v h' t' m ys hC hi hv hy hns hst q j => ?_) (fun C D h' t' m ys hC hD hCD hy hns hpl q j => ?_)
  · simp only [List.mem_cons, List.not_mem_nil, or_false] at hb
    rcases hb with rfl | rfl
    · rw [z₂]; exact Nat.lt_succ_self _
    · rw [z₂]; exact Nat.lt_succ_of_lt hlt
  · have IC : h.objs.size ≠ C := by omega
    have lift : ∀ (h₆ : Heap) ys', Heap.ExtBut C h' h₆ → J (i + 1) ys' h₆ → J' (i + 1) ys' h₆ := fun h₆ ys' x j => up' _ _ _ (fun u v e => by
      obtain ⟨_, ho, hc, _⟩ := hst.1
      exact ne_cls e (x _ _ IC ho) rfl hc (by decide) rfl) j
    refine wpAny_mono (step C h.objs.size i v h' t' m ys (by omega) (by simpa using hi) (by simpa using hv) hy hns (up h' q) hst.1 (down _ _ _ j)) (fun _ s₃ q₃ => wpAny_mono q₃ (fun _ s₄ q₄ => wpAny_mono q₄ (fun ok s₅ q₅ => ?_) fun _ _ z => z) fun _ _ z => z) fun _ _ z => z
    cases ok with
    | false =>
      rw [if_neg (by decide)] at q₅ ⊢
      obtain ⟨h₅, m₅, t₅, e1, e2, e3, e4⟩ := q₅
      exact ⟨h₅, m₅, t₅, e1, e2, e3, lift _ _ e2 e4⟩
    | true =>
      rw [if_pos rfl] at q₅ ⊢
      refine wpAny_mono q₅ (fun y s₆ q₆ => ?_) fun _ _ z => z
      obtain ⟨h₅, m₅, t₅, e1, e2, e3, e4⟩ := q₆
      exact ⟨h₅, m₅, t₅, e1, e2, e3, lift _ _ e2 e4⟩
  · exact fin C D h' t' m ys (by omega) (by omega) hCD (by simpa using hy) hns hpl (up h' q) (by simpa using down _ _ _ j)
/-- a round with a plain name -/
theorem rd_name {elt : PySem.Expr} {ifs : List PySem.Expr} {cenv : Env} {C I : Addr} {x : Str} {px : Pos} {v : Value} {i : Nat} {ys : List Value} {J : Nat → List Value → Heap → Prop} {m : Str → Option Value} (hCe : cenv.locals = C) (hkd : cenv.scope.kind = .function) (hx : cenv.kindOf x = some .local) (hn : h.Ns C m)
    (body : ∀ h₄ t₄, Heap.SameBut C h h₄ → h₄.Ns C (fun y => if y = x then some v else m y) → wpAny (MM w) A (testsOf ifs cenv) (fun ok s₅ =>
      if ok = true then wpAny (MM w) A (eval elt cenv) (fun y s₆ => ∃ h₆ t₆, s₆ = ⟨h₆, g, dr, t₆, os⟩ ∧ Keep h₄ h₆ ∧ J (i + 1) (ys ++ [y]) h₆) (fun _ _ => False) s₅
      else ∃ h₅ t₅, s₅ = ⟨h₅, g, dr, t₅, os⟩ ∧ Keep h₄ h₅ ∧ J (i + 1) ys h₅) (fun _ _ => False) ⟨h₄, g, dr, t₄, os⟩) :
    Round w A g dr os elt (.Name x px) ifs cenv C I v i ys J h t := by
  subst hCe
  have hp : (cenv.scope.kind == .class || (cenv.scope.kind == .module && cenv.locals != cenv.globals)) = false := by rw [hkd]; rfl
  refine wpAny_of_eq (rfl : letOwnedTupleGo (.Name x px) (.ref I) v = pure ()) ?_
  refine wpAny_assign_Name (wpAny_storeName_local hx hn (fun h₄ n₄ s₄ => ?_) hp)
  replace s₄ : Heap.SameBut cenv.locals h h₄ := s₄
  refine wpAny_mono (body h₄ _ s₄ n₄) (fun ok s₅ q => ?_) fun _ _ z => z
  cases ok with
  | false =>
    rw [if_neg (by decide)] at q ⊢
    obtain ⟨h₅, t₅, e1, e2, e3⟩ := q
    exact ⟨h₅, _, t₅, e1, fun b o nb e => e2 b o (s₄.extBut b o nb e), n₄.keeps e2, e3⟩
  | true =>
    rw [if_pos rfl] at q ⊢
    refine wpAny_mono q (fun y s₆ q => ?_) fun _ _ z => z
    obtain ⟨h₅, t₅, e1, e2, e3⟩ := q
    exact ⟨h₅, _, t₅, e1, fun b o nb e => e2 b o (s₄.extBut b o nb e), n₄.keeps e2, e3⟩
/-- a round that unpacks a pair -/
theorem rd_pair {elt : PySem.Expr} {ifs : List PySem.Expr} {cenv : Env} {C I a : Addr} {x y : Str} {px py pt : Pos} {kt : Nat} {T : Addr} {u v : Value} {i j : Nat} {ys : List Value} {J : Nat → List Value → Heap → Prop} {m : Str → Option Value} (hh : A.handled = none) (hCe : cenv.locals = C) (hkd : cenv.scope.kind = .function)
    (hx : cenv.kindOf x = some .local) (hy : cenv.kindOf y = some .local) (hn : h.Ns C m) (hit : h.IsListIter I a j) (hT : h.get? T = some (tup2 u v))
    (body : ∀ h₄ t₄, Heap.ExtBut C h h₄ → h₄.Ns C (fun z => if z = y then some v else if z = x then some u else m z) → wpAny (MM w) A (testsOf ifs cenv) (fun ok s₅ =>
      if ok = true then wpAny (MM w) A (eval elt cenv) (fun r s₆ => ∃ h₆ t₆, s₆ = ⟨h₆, g, dr, t₆, os⟩ ∧ Keep h₄ h₆ ∧ J (i + 1) (ys ++ [r]) h₆) (fun _ _ => False) s₅
      else ∃ h₅ t₅, s₅ = ⟨h₅, g, dr, t₅, os⟩ ∧ Keep h₄ h₅ ∧ J (i + 1) ys h₅) (fun _ _ => False) ⟨h₄, g, dr, t₄, os⟩) :
    Round w A g dr os elt (.Tuple [.Name x px, .Name y py] kt pt) ifs cenv C I (.ref T) i ys J h t := by
  subst hCe
  have hp : (cenv.scope.kind == .class || (cenv.scope.kind == .module && cenv.locals != cenv.globals)) = false := by rw [hkd]; rfl
  refine wpAny_letOwnedTupleGo_listiter (s := ⟨h, g, dr, t, os⟩) hit ?_
  refine wpAny_assign_Tuple (s := ⟨h, g, dr, t, os⟩) (items := #[u, v]) hh ⟨_, hT, rfl, _, rfl⟩ rfl rfl fun h₂ x₂ => ?_
  replace x₂ : Heap.ExtBut h.objs.size h h₂ := x₂
  have k₂ : Keep h h₂ := fun b o e => x₂ b o (Nat.ne_of_lt (Heap.lt_size e)) e
  show wpAny _ _ (do holding [v] (assign (.Name x px) cenv u); do holding [] (assign (.Name y py) cenv v); pure ()) _ _ _
  refine wpAny_bind (wpAny_holding (wpAny_assign_Name (wpAny_storeName_local hx (hn.keeps k₂) (fun h₃ n₃ s₃ => ?_) hp)))
  replace s₃ : Heap.SameBut cenv.locals h₂ h₃ := s₃
  refine wpAny_bind (wpAny_holding (wpAny_assign_Name (wpAny_storeName_local hy n₃ (fun h₄ n₄ s₄ => wpAny_pure ?_) hp)))
  replace s₄ : Heap.SameBut cenv.locals h₃ h₄ := s₄
  have e4 : Heap.ExtBut cenv.locals h h₄ := fun b o nb e => s₄.extBut b o nb (s₃.extBut b o nb (k₂ b o e))
  refine wpAny_mono (body h₄ _ e4 n₄) (fun ok s₅ q => ?_) fun _ _ z => z
  cases ok with
  | false =>
    rw [if_neg (by decide)] at q ⊢
    obtain ⟨h₅, t₅, q1, q2, q3⟩ := q
    exact ⟨h₅, _, t₅, q1, fun b o nb e => q2 b o (e4 b o nb e), n₄.keeps q2, q3⟩
  | true =>
    rw [if_pos rfl] at q ⊢
    refine wpAny_mono q (fun y s₆ q => ?_) fun _ _ z => z
    obtain ⟨h₅, t₅, q1, q2, q3⟩ := q
    exact ⟨h₅, _, t₅, q1, fun b o nb e => q2 b o (e4 b o nb e), n₄.keeps q2, q3⟩
end
end
end Mine
namespace Mine
noncomputable section
noncomputable abbrev kn (tv : Int → Option (Option Bool)) : List Int := K3.filter fun k => (tv k).isSome
noncomputable abbrev ovOf (tv : Int → Option (Option Bool)) : Int → Value := fun k => bv (tv k).join
theorem f_items (w : World) : findIn (KK w) (.ref 170) "items" = some (some (.ref 86)) := by kernel_rfl
theorem f_keys (w : World) : findIn (KK w) (.ref 170) "keys" = some (some (.ref 98)) := by kernel_rfl
theorem bo_iter : bootBuiltins "iter" = some (.builtin "iter") := by kernel_rfl
theorem b_iter (w : World) : nsIn (KK w) mainGlobals "iter" = some none := by kernel_rfl
theorem TupsAt.congr {h : Heap} {vs : List Value} {ks : List Int} {ov ov' : Int → Value} (x : TupsAt h vs ks ov) (e : ∀ k ∈ ks, ov k = ov' k) : TupsAt h vs ks ov' :=
  ⟨x.1, fun i v k a b => let ⟨T, t, p, q⟩ := x.2 i v k a b; ⟨T, t, p, by rw [← e k (List.mem_of_getElem? b)]; exact q⟩⟩
section
variable {w : World} {A : Around} {E : Value → Shared → Prop} {h₀ h hb : Heap} {L : Addr} {m : Str → Option Value} {g : Array GenState} {dr : Drawn} {t : Nat} {os : OsState} {p : Ptr} {tv : Int → Option (Option Bool)} {bf : Int → Option Bool} {nf : Int → Bool} {Q : Value → Shared → Prop} {env : Env}
theorem st_items (G : Good0 w h₀) (k : Keep h₀ h) (n81 : h₀.get? 81 = none) (hroom : A.depth + 4 < recursionLimit) (hh : A.handled = none) (X : St w h₀ h p tv bf nf) (hc : Cd h)
    (kk : ∀ h' t' g' l vs c', (AllBare g → AllBare g') → h.objs.size ≤ l → h'.get? l = some (seqObj "list" vs.toArray c') → TupsAt h' vs (kn tv) (ovOf tv) → Chg [81] h h' → Cd h' → Q (.ref l) ⟨h', g', dr, t', os⟩) :
    wpAny (MM w) A (call (.ref 86) [.ref p.x]) Q E ⟨h, g, dr, t, os⟩ := by
  obtain ⟨D, Ol, S, Gs, N, X, r, cv⟩ := X
  refine items_ok G k n81 hroom hh X hc fun h' t' g' l vs c' ab hl ho x c cd => kk h' t' g' l vs c' ab hl ho ?_ c cd
  rw [r.s] at x
  exact x.congr fun k hk => vo_bv r (List.mem_filter.mp hk).1
/-- iter(list) -/
theorem n_iter {l : Addr} {xs : Array Value} (hl : h.IsList l xs) (kk : Q (.ref h.objs.size) ⟨h.push { cls := .type "list_iterator", data := .fields #[.ref l, .int 0 0] }, g, dr, t, os⟩) : wpAny (MM w) A (call (.builtin "iter") [.ref l]) Q E ⟨h, g, dr, t, os⟩ := by
  refine call_function_entry (by decide +kernel) (by decide +kernel) kdk_entry_iter (kdk_args_iter _) ?_
  unfold Builtin.«iter»
  refine wpAny_bind (m := someArgs "iter" 1 2 _) (wpAny_of_eq (a := [Value.ref l]) (by first | rfl | kernel_rfl!) ?_)
  show wpAny _ _ (pyIter (.ref l) >>= _) _ _ _
  exact wpAny_bind (wpAny_pyIter_list (s := ⟨h, g, dr, t, os⟩) hl (wpAny_pure ⟨_, rfl, kk⟩))
theorem iteritems_ok (G : Good0 w h₀) (k : Keep h₀ h) (n81 : h₀.get? 81 = none) (hroom : A.depth + 5 < recursionLimit) (hh : A.handled = none) (X : St w h₀ h p tv bf nf) (hc : Cd h)
    (kk : ∀ h' t' g' I l vs c', (AllBare g → AllBare g') → h.objs.size ≤ l → h.objs.size ≤ I → l ≠ I → h'.get? l = some (seqObj "list" vs.toArray c') → h'.IsListIter I l 0 → TupsAt h' vs (kn tv) (ovOf tv) → Chg [81] h h' → Cd h' → Q (.ref I) ⟨h', g', dr, t', os⟩) :
    wpAny (MM w) A (call (.ref 93) [.ref p.x]) Q E ⟨h, g, dr, t, os⟩ := by
  have X0 := X
  obtain ⟨D, Ol, S, Gs, N, X, -, -⟩ := X
  refine m_call (binds := [("self", .ref p.x)]) G k (by omega) (fn93 w) (by kernel_rfl) (BindsTo.of_eq (by kernel_rfl)) (by kernel_rfl) ?_
  intro h₁ t₁ fm
  have k₁ : Keep h h₁ := fm.out (Nat.le_refl _)
  refine wpAny_execs_cons (wpAny_Return_some (n_bf1 G fm bo_iter (b_iter w) (n_um0 G fm (X.keep k₁) (f_items w) (fn86 w) (st_items G fm.base n81 (by show A.depth + 1 + 4 < _; omega) hh (X0.keep k₁) (hc.keep k₁) fun h' t' g' l vs c' ab hl ho x c cd => n_iter ⟨_, ho, rfl, _, rfl⟩ ?_))))
  have z1 : h.objs.size < h₁.objs.size := fm.ns.lt
  have up : Keep h' (h'.push { cls := .type "list_iterator", data := .fields #[.ref l, .int 0 0] }) := fun b o e => Heap.get?_push_of_some _ e
  have lz : l < h'.objs.size := Heap.lt_size ho
  exact kk _ _ g' h'.objs.size l vs c' ab (Nat.le_trans (Nat.le_of_lt z1) hl) (Nat.le_trans (Nat.le_trans (Nat.le_of_lt z1) hl) (Nat.le_of_lt lz)) (Nat.ne_of_lt lz) (up _ _ ho) ⟨_, Heap.get?_push_size _ rfl, rfl, rfl⟩ (x.at fun b u v e => up b _ e)
    (fun b o n e => up b o (c b o n (k₁ b o e))) (cd.keep up)
end
end
end Mine
namespace Mine
noncomputable section
theorem take_succ' {α : Type} {l : List α} {i : Nat} {x : α} (h : l[i]? = some x) : l.take (i + 1) = l.take i ++ [x] := by rw [List.take_add_one, h]; rfl
theorem ints1 (k : Int) (t : Tok) : IntsAre [Value.int k t] [k] := .cons _ _ .nil
section
variable {w : World} {A : Around} {E : Value → Shared → Prop} {h₀ h hb : Heap} {L : Addr} {m : Str → Option Value} {g : Array GenState} {dr : Drawn} {t : Nat} {os : OsState} {p : Ptr} {tv : Int → Option (Option Bool)} {bf : Int → Option Bool} {nf : Int → Bool} {Q : Value → Shared → Prop} {env : Env}
theorem kn_len (tv : Int → Option (Option Bool)) : (kn tv).length ≤ 3 := List.length_filter_le _ _
theorem keys_ok (G : Good0 w h₀) (k : Keep h₀ h) (n81 : h₀.get? 81 = none) (hroom : A.depth + 5 < recursionLimit) (hh : A.handled = none) (X : St w h₀ h p tv bf nf) (hc : Cd h)
    (kk : ∀ h' t' g' l vs, (AllBare g → AllBare g') → h.objs.size ≤ l → h'.IsList l vs.toArray → IntsAre vs (kn tv) → Chg [81] h h' → Cd h' → Q (.ref l) ⟨h', g', dr, t', os⟩) :
    wpAny (MM w) A (call (.ref 98) [.ref p.x]) Q E ⟨h, g, dr, t, os⟩ := by
  have X0 := X
  obtain ⟨D, Ol, S, Gs, N, X, -, -⟩ := X
  refine m_call (binds := [("self", .ref p.x)]) G k (by omega) (fn98 w) (by kernel_rfl) (BindsTo.of_eq (by kernel_rfl)) (by kernel_rfl) ?_
  intro h₁ t₁ fm
  have k₁ : Keep h h₁ := fm.out (Nat.le_refl _)
  have z1 : h.objs.size < h₁.objs.size := fm.ns.lt
  refine wpAny_execs_cons (wpAny_Return_some ?_)
  rw [eval_ListComp]
  refine wpAny_comprehension_free (use := none) (cl := []) rfl (fun _ => rfl) rfl rfl (by decide) ?_
  refine n_um0 G fm (X.keep k₁) (f_items w) (fn86 w) (st_items G fm.base n81 (by show A.depth + 1 + 4 < _; omega) hh (X0.keep k₁) (hc.keep k₁) fun h₂ t₂ g₂ l vs c' ab hl ho x c cd => ?_)
  have ll := kn_len tv
  have xl := x.1
  refine lc_list (J := fun i ys _ => IntsAre ys ((kn tv).take i)) (vs := vs) hh ⟨_, ho, rfl, _, rfl⟩ (by omega) (by decide) (by rfl) (fun _ _ _ _ j _ => j) .nil ?_ ?_
  · intro C I i v h' t' m ys hC hi hv hy hns kp hit j
    obtain ⟨kk', hkk⟩ : ∃ k, (kn tv)[i]? = some k := ⟨_, List.getElem?_eq_getElem (by omega)⟩
    obtain ⟨T, tk, rfl, hT⟩ := x.2 i v kk' hv hkk
    refine rd_pair hh rfl rfl rfl rfl hns hit (kp _ _ hT) fun h₄ t₄ x₄ n₄ => tests0 ?_
    rw [if_pos rfl]
    refine wpAny_Name (wpAny_loadName_local rfl rfl n₄ rfl ?_) (by decide)
    refine ⟨h₄, t₄, rfl, Keep.refl _, ?_⟩
    rw [take_succ' hkk]
    exact j.append (ints1 _ _)
  · intro C D h' t' m ys hC hD hCD hy hns hpl kp j
    refine ⟨m, hns, fun h'' s'' => ?_⟩
    rw [xl, List.take_length] at j
    obtain ⟨n, hD'⟩ := hpl
    refine kk h'' t' g₂ D ys ab (Nat.le_trans (Nat.le_of_lt z1) (Nat.le_trans hl (Nat.le_trans (Nat.le_of_lt (Heap.lt_size ho)) hD))) ⟨_, (s''.2 D (Ne.symm hCD)).trans hD', rfl, _, rfl⟩ j (fun b o n e => ?_) ?_
    · have e2 := c b o n (k₁ b o e)
      exact (s''.2 b (Nat.ne_of_lt (Nat.lt_of_lt_of_le (Heap.lt_size e2) hC))).trans (kp b o e2)
    · exact (cd.keep kp).chg (Chg.of_same (l := [C]) s'' (by simp)) (by rw [List.mem_singleton]; have := G.size fm.base; have : h₁.objs.size ≤ C := Nat.le_trans hl (Nat.le_trans (Nat.le_of_lt (Heap.lt_size ho)) hC); exact Nat.ne_of_lt (by omega)) (by rw [List.mem_singleton]; have := G.size fm.base; have : h₁.objs.size ≤ C := Nat.le_trans hl (Nat.le_trans (Nat.le_of_lt (Heap.lt_size ho)) hC); exact Nat.ne_of_lt (by omega))
theorem values_ok (G : Good0 w h₀) (k : Keep h₀ h) (n81 : h₀.get? 81 = none) (hroom : A.depth + 5 < recursionLimit) (hh : A.handled = none) (X : St w h₀ h p tv bf nf) (hc : Cd h)
    (kk : ∀ h' t' g' l, (AllBare g → AllBare g') → h.objs.size ≤ l → h'.IsList l ((kn tv).map (ovOf tv)).toArray → Chg [81] h h' → Cd h' → Q (.ref l) ⟨h', g', dr, t', os⟩) :
    wpAny (MM w) A (call (.ref 103) [.ref p.x]) Q E ⟨h, g, dr, t, os⟩ := by
  have X0 := X
  obtain ⟨D, Ol, S, Gs, N, X, -, -⟩ := X
  refine m_call (binds := [("self", .ref p.x)]) G k (by omega) (fn103 w) (by kernel_rfl) (BindsTo.of_eq (by kernel_rfl)) (by kernel_rfl) ?_
  intro h₁ t₁ fm
  have k₁ : Keep h h₁ := fm.out (Nat.le_refl _)
  have z1 : h.objs.size < h₁.objs.size := fm.ns.lt
  refine wpAny_execs_cons (wpAny_Return_some ?_)
  rw [eval_ListComp]
  refine wpAny_comprehension_free (use := none) (cl := []) rfl (fun _ => rfl) rfl rfl (by decide) ?_
  refine n_um0 G fm (X.keep k₁) (f_items w) (fn86 w) (st_items G fm.base n81 (by show A.depth + 1 + 4 < _; omega) hh (X0.keep k₁) (hc.keep k₁) fun h₂ t₂ g₂ l vs c' ab hl ho x c cd => ?_)
  have ll := kn_len tv
  have xl := x.1
  refine lc_list (J := fun i ys _ => ys = ((kn tv).take i).map (ovOf tv)) (vs := vs) hh ⟨_, ho, rfl, _, rfl⟩ (by omega) (by decide) (by rfl) (fun _ _ _ _ j _ => j) rfl ?_ ?_
  · intro C I i v h' t' m ys hC hi hv hy hns kp hit j
    obtain ⟨kk', hkk⟩ : ∃ k, (kn tv)[i]? = some k := ⟨_, List.getElem?_eq_getElem (by omega)⟩
    obtain ⟨T, tk, rfl, hT⟩ := x.2 i v kk' hv hkk
    refine rd_pair hh rfl rfl rfl rfl hns hit (kp _ _ hT) fun h₄ t₄ x₄ n₄ => tests0 ?_
    rw [if_pos rfl]
    refine wpAny_Name (wpAny_loadName_local rfl rfl n₄ rfl ?_) (by decide)
    refine ⟨h₄, t₄, rfl, Keep.refl _, ?_⟩
    rw [take_succ' hkk, List.map_append, j]; rfl
  · intro C D h' t' m ys hC hD hCD hy hns hpl kp j
    refine ⟨m, hns, fun h'' s'' => ?_⟩
    rw [xl, List.take_length] at j
    subst j
    obtain ⟨n, hD'⟩ := hpl
    refine kk h'' t' g₂ D ab (Nat.le_trans (Nat.le_of_lt z1) (Nat.le_trans hl (Nat.le_trans (Nat.le_of_lt (Heap.lt_size ho)) hD))) ⟨_, (s''.2 D (Ne.symm hCD)).trans hD', rfl, _, rfl⟩ (fun b o n e => ?_) ?_
    · have e2 := c b o n (k₁ b o e)
      exact (s''.2 b (Nat.ne_of_lt (Nat.lt_of_lt_of_le (Heap.lt_size e2) hC))).trans (kp b o e2)
    · exact (cd.keep kp).chg (Chg.of_same (l := [C]) s'' (by simp)) (by rw [List.mem_singleton]; have := G.size fm.base; have : h₁.objs.size ≤ C := Nat.le_trans hl (Nat.le_trans (Nat.le_of_lt (Heap.lt_size ho)) hC); exact Nat.ne_of_lt (by omega)) (by rw [List.mem_singleton]; have := G.size fm.base; have : h₁.objs.size ≤ C := Nat.le_trans hl (Nat.le_trans (Nat.le_of_lt (Heap.lt_size ho)) hC); exact Nat.ne_of_lt (by omega))
theorem iter_ok (G : Good0 w h₀) (k : Keep h₀ h) (n81 : h₀.get? 81 = none) (hroom : A.depth + 6 < recursionLimit) (hh : A.handled = none) (X : St w h₀ h p tv bf nf) (hc : Cd h)
    (kk : ∀ h' t' g' I l vs, (AllBare g → AllBare g') → h.objs.size ≤ l → h.objs.size ≤ I → l ≠ I → h'.IsList l vs.toArray → h'.IsListIter I l 0 → IntsAre vs (kn tv) → Chg [81] h h' → Cd h' → Q (.ref I) ⟨h', g', dr, t', os⟩) :
    wpAny (MM w) A (call (.ref 72) [.ref p.x]) Q E ⟨h, g, dr, t, os⟩ := by
  have X0 := X
  obtain ⟨D, Ol, S, Gs, N, X, -, -⟩ := X
  refine m_call (binds := [("self", .ref p.x)]) G k (by omega) (fn72 w) (by kernel_rfl) (BindsTo.of_eq (by kernel_rfl)) (by kernel_rfl) ?_
  intro h₁ t₁ fm
  have k₁ : Keep h h₁ := fm.out (Nat.le_refl _)
  refine wpAny_execs_cons (wpAny_Return_some (n_bf1 G fm bo_iter (b_iter w) (n_um0 G fm (X.keep k₁) (f_keys w) (fn98 w) (keys_ok G fm.base n81 (by show A.depth + 1 + 5 < _; omega) hh (X0.keep k₁) (hc.keep k₁) fun h' t' g' l vs ab hl ho x c cd => n_iter ho ?_))))
  have z1 : h.objs.size < h₁.objs.size := fm.ns.lt
  have up : Keep h' (h'.push { cls := .type "list_iterator", data := .fields #[.ref l, .int 0 0] }) := fun b o e => Heap.get?_push_of_some _ e
  have lz : l < h'.objs.size := let ⟨_, e, _⟩ := ho; Heap.lt_size e
  exact kk _ _ g' h'.objs.size l vs ab (Nat.le_trans (Nat.le_of_lt z1) hl) (Nat.le_trans (Nat.le_trans (Nat.le_of_lt z1) hl) (Nat.le_of_lt lz)) (Nat.ne_of_lt lz) (ho.at fun o e => up _ o e) ⟨_, Heap.get?_push_size _ rfl, rfl, rfl⟩ x
    (fun b o n e => up b o (c b o n (k₁ b o e))) (cd.keep up)
end
end
end Mine
namespace Mine
noncomputable section
theorem list_nokeys : typeLookup (.type "list") "keys" = pure none := by rw [typeLookup_type, builtinLookup_eq_fast]; kernel_rfl
theorem entry_dul : entryFor table "dict.update.loop" = some Builtin.«dict.update.loop» := entryFor_of_tree (by kernel_rfl)
theorem plain_dul : plainId "dict.update.loop" = true := by decide +kernel
theorem bo_dict : bootBuiltins "dict" = some (.type "dict") := by decide +kernel
theorem b_dict (w : World) : nsIn (KK w) mainGlobals "dict" = some none := by kernel_rfl
section
variable {w : World} {A : Around} {E : Value → Shared → Prop} {h : Heap} {g : Array GenState} {dr : Drawn} {t : Nat} {os : OsState} {a : Addr} {xs : Array Value} {k : Nat}
theorem nokeys {Q : Option Value → Shared → Prop} (hx : h.get? a = some (seqObj "list" xs k)) (hA : A.handled = none) (kk : ∀ h' t', Keep h h' → Q none ⟨h', g, dr, t', os⟩) : wpAny (MM w) A (getAttr? (.ref a) "keys") Q E ⟨h, g, dr, t, os⟩ := by
  have hT : ∀ tk', (⟨h, g, dr, tk', os⟩ : Shared).TypeIs (.ref a) "list" := fun _ => ⟨_, hx, rfl⟩
  have f1 := sub_AttributeError
  have f3 := F.slot_list_getattribute.lookup
  have f4 := F.slot_list_getattribute.bind (.ref a)
  have f5 := am_list_getattr_none
  unfold getAttr? getAttrBy? getAttrBy
  repeat (any_goals (first | assumption | exact hT _ | ((with_reducible show wpAny _ _ (call (Value.builtin "list.__getattribute__") _ _) _ _ _); refine call_meets F.slot_list_getattribute (hT _) am_entry_list_getattribute (F.args_list_getattribute_2 _ _) (meets_getattribute_miss_list a xs k #[] "keys" _ list_nokeys (by decide)) ⟨hx, hA, fun h' tk' e hx' => ?_⟩) | wp_step))
  obtain ⟨t', u', he⟩ := hx'.there
  show wpAny _ _ (getattributeRaised _ _ _ _ _ _ _) _ _ _
  unfold getattributeRaised
  repeat (any_goals (first | assumption | wp_step))
  exact kk _ _ hx'.keeps
end
end
end Mine
namespace Mine
noncomputable section
section
variable {w : World} {A : Around} {E : Value → Shared → Prop} {h : Heap} {g : Array GenState} {dr : Drawn} {t : Nat} {os : OsState} {a : Addr} {xs : Array Value} {k : Nat}
theorem d_loop {d I l : Addr} {vs : List Value} {ks : List Int} {ov : Int → Value} {hr : Heap} {R : Result → Shared → Prop} (hA : A.handled = none) (hI : hr.objs.size ≤ I) (hd' : hr.objs.size ≤ d) (dI : d ≠ I) (lI : l ≠ I) (ld : l ≠ d) (nd : ks.Nodup) (hlen : ks.length ≤ 3)
    (hl : hr.IsList l vs.toArray) (x : TupsAt hr vs ks ov) (kk : ∀ h' t', h'.DictOf (IK w) d (ks.map fun k => (k, ov k)) → Keep hr h' → R (.ok (.ret .none)) ⟨h', g, dr, t', os⟩) :
    ∀ (n i : Nat) (h : Heap) (t : Nat), i + n = ks.length → Keep hr h → h.IsListIter I l i → h.DictOf (IK w) d ((ks.take i).map fun k => (k, ov k)) → codeAny (MM w) A (.builtin "dict.update.loop" ⟨[.ref d, .ref I, rawInt i, .none], []⟩) R ⟨h, g, dr, t, os⟩ := by
  intro n
  induction n with
  | zero =>
    intro i h t hi kp hit hd
    have : i = ks.length := by omega
    subst this
    rw [List.take_length] at hd
    refine codeAny_builtin entry_dul ?_
    rw [Around.under_plainId plain_dul _]
    show wpAny _ A.in1 (pyNext (.ref I) >>= _) _ _ _
    refine wpAny_bind (wpAny_pyNext_list_end (s := ⟨h, g, dr, t, os⟩) hA hit (hl.at fun o e => kp _ o e) (by rw [List.getElem?_toArray]; exact List.getElem?_eq_none (by rw [x.1]; exact Nat.le_refl _)) fun h₁ x₁ => ?_)
    show wpAny _ A.in1 (Builtin.Dict.addKeywords d [] >>= _) _ _ _
    exact wpAny_bind (wpAny_pure (wpAny_pure (kk h₁ t (DictOf_at hd fun o e => x₁ _ o dI e) fun b o e => x₁ b o (Nat.ne_of_lt (Nat.lt_of_lt_of_le (Heap.lt_size e) hI)) (kp b o e))))
  | succ n ih =>
    intro i h t hi kp hit hd
    have hik : i < ks.length := by omega
    have hiv : i < vs.length := by rw [x.1]; exact hik
    obtain ⟨T, tk, hv, hT⟩ := x.2 i vs[i] ks[i] (List.getElem?_eq_getElem hiv) (List.getElem?_eq_getElem hik)
    refine codeAny_builtin entry_dul ?_
    rw [Around.under_plainId plain_dul _]
    show wpAny _ A.in1 (pyNext (.ref I) >>= _) _ _ _
    refine wpAny_bind (wpAny_pyNext_list_item (s := ⟨h, g, dr, t, os⟩) hit (hl.at fun o e => kp _ o e) (x := .ref T) (by rw [List.getElem?_toArray, List.getElem?_eq_getElem hiv, hv]) fun h₁ it₁ s₁ => ?_)
    have k₁ : Keep hr h₁ := fun b o e => s₁.extBut b o (Nat.ne_of_lt (Nat.lt_of_lt_of_le (Heap.lt_size e) hI)) (kp b o e)
    have hT₁ := k₁ _ _ hT
    show wpAny _ A.in1 (holding [Value.ref T] _ >>= _) _ _ _
    refine wpAny_bind (wpAny_holding (wpAny_bind (wpAny_tryCatch ?_)))
    unfold Builtin.Dict.pairItems
    refine wpAny_bind (wpAny_typeOf (T := "tuple") ⟨_, hT₁, rfl⟩ ?_)
    rw [if_pos (by decide)]
    unfold seqItems?
    refine wpAny_bind (wpAny_bind (wpAny_bind (wpAny_load hT₁ ?_)))
    refine wpAny_pure (wpAny_pure (wpAny_pure ?_))
    dsimp only [Option.getD]
    have hd₁ : h₁.DictOf (IK w) d ((ks.take i).map fun k => (k, ov k)) := DictOf_at hd fun o e => s₁.extBut _ o dI e
    have hln : ((ks.take i).map fun k => (k, ov k)).length ≤ sizeLine := by
      rw [List.length_map, sizeLine_eq]
      exact Nat.le_trans (List.length_take_le _ _) (by omega)
    refine wpAny_holding (wpAny_dictSet_pairs (knd := IK w) (hsz := hln) (intKind_is PR w ks[i] tk) hd₁ fun h₂ d₂ s₂ => ?_)
    replace s₂ : Heap.SameBut d h₁ h₂ := s₂
    have hnew : ks[i] ∉ ((ks.take i).map fun k => (k, ov k)).map (·.1) := by
      rw [List.map_map]
      simp only [Function.comp_def, List.map_id']
      intro q
      have : (ks.take (i + 1)).Nodup := nd.sublist (List.take_sublist _ _)
      rw [take_succ' (List.getElem?_eq_getElem hik)] at this
      exact (List.nodup_append.mp this).2.2 _ q _ (by simp) rfl
    rw [stored_new hnew] at d₂
    refine wpAny_pure ⟨plainId_quiet plain_dul _, ?_⟩
    have e1 : rawInt ((i : Int) + 1) = rawInt ((i + 1 : Nat) : Int) := by push_cast; rfl
    rw [e1]
    refine ih (i + 1) h₂ _ (by omega) (fun b o e => s₂.extBut b o (Nat.ne_of_lt (Nat.lt_of_lt_of_le (Heap.lt_size e) hd')) (k₁ b o e)) (it₁.extBut s₂.extBut (Ne.symm dI)) ?_
    rw [take_succ' (List.getElem?_eq_getElem hik), List.map_append]
    exact d₂
/-- dict(list of such tuples) -/
theorem m_dictof {l : Addr} {vs : List Value} {ks : List Int} {ov : Int → Value} {c : Nat} {Q : Value → Shared → Prop} (hA : A.handled = none) (nd : ks.Nodup) (hlen : ks.length ≤ 3) (hl : h.get? l = some (seqObj "list" vs.toArray c)) (x : TupsAt h vs ks ov)
    (kk : ∀ h' t' d, h.objs.size ≤ d → h'.DictOf (IK w) d (ks.map fun k => (k, ov k)) → Keep h h' → Q (.ref d) ⟨h', g, dr, t', os⟩) : wpAny (MM w) A (call (.type "dict") [.ref l]) Q E ⟨h, g, dr, t, os⟩ := by
  refine callType_codes (Q₁ := fun obj s₁ => obj = .ref h.objs.size ∧ s₁ = ⟨h.push { cls := .type "dict", data := .dict #[] }, g, dr, t, os⟩) F.kt_called_dict (F.kt_typeCall_dict_1 _) F.entry_dict_init (kt_code_dict_new _ ⟨rfl, rfl⟩) ?_
  rintro obj s₁ ⟨rfl, rfl⟩
  have hnew : (h.push { cls := .type "dict", data := .dict #[] }).DictOf (IK w) h.objs.size [] := Heap.DictOf.new h
  have k₁ : Keep h (h.push { cls := .type "dict", data := .dict #[] }) := fun b o e => Heap.get?_push_of_some _ e
  have z₁ : (h.push { cls := .type "dict", data := .dict #[] }).objs.size = h.objs.size + 1 := Heap.size_push ..
  have llt : l < h.objs.size := Heap.lt_size hl
  refine ⟨hnew.typeIs, F.args_dict_init_2 _ _, ?_⟩
  generalize h.push { cls := .type "dict", data := .dict #[] } = h₁ at hnew k₁ z₁ ⊢
  unfold Builtin.«dict.__init__»
  refine wpAny_bind ?_
  unfold Builtin.Dict.selfAndRest
  refine wpAny_bind (wpAny_notOrdered_dict hnew.typeIs ?_)
  show wpAny _ _ (pure (h.objs.size, [Value.ref l])) _ _ _
  refine wpAny_pure ?_
  show wpAny _ _ (Builtin.Dict.updateFrom "dict.__init__" h.objs.size (.ref l) [] .none) _ _ _
  unfold Builtin.Dict.updateFrom
  refine wpAny_bind (wpAny_typeOf (T := "list") ⟨_, k₁ _ _ hl, rfl⟩ ?_)
  rw [if_pos (by decide)]
  refine wpAny_bind (nokeys (k₁ _ _ hl) hA fun h₂ t₂ k₂ => ?_)
  rw [if_pos (by rfl)]
  refine wpAny_bind (wpAny_rule ?_)
  have l₂ : h₂.IsList l vs.toArray := ⟨_, k₂ _ _ (k₁ _ _ hl), rfl, _, rfl⟩
  refine wpAny_bind (wpAny_pyIter_list (s := ⟨h₂, g, dr, t₂, os⟩) l₂ ?_)
  have k₃ : Keep h₂ (h₂.push { cls := .type "list_iterator", data := .fields #[.ref l, .int 0 0] }) := fun b o e => Heap.get?_push_of_some _ e
  refine wpAny_bind (wpAny_pure ?_)
  refine wpAny_pure ⟨plainId_quiet plain_dul _, ?_⟩
  have lt2 : h.objs.size < h₂.objs.size := let ⟨_, _, _, ho, _⟩ := hnew; Heap.lt_size (k₂ _ _ ho)
  have kh : Keep h (h₂.push { cls := .type "list_iterator", data := .fields #[.ref l, .int 0 0] }) := fun b o e => k₃ b o (k₂ b o (k₁ b o e))
  have dd : (h₂.push { cls := .type "list_iterator", data := .fields #[.ref l, .int 0 0] }).DictOf (IK w) h.objs.size [] := DictOf_at hnew fun o e => k₃ _ o (k₂ _ o e)
  refine d_loop (A := A.in1) (hr := h) (show A.in1.handled = none from hA) (Nat.le_of_lt lt2) (Nat.le_refl _) (Nat.ne_of_lt lt2) (Nat.ne_of_lt (Nat.lt_trans llt lt2)) (Nat.ne_of_lt llt) nd hlen ⟨_, hl, rfl, _, rfl⟩ x (fun h' t' d' k' => ?_) ks.length 0 _ _ (by omega) kh ⟨_, Heap.get?_push_size _ rfl, rfl, rfl⟩ dd
  exact ⟨rfl, kk h' t' _ (Nat.le_refl _) d' k'⟩
end
section
variable {w : World} {A : Around} {E : Value → Shared → Prop} {h₀ h hb : Heap} {L : Addr} {m : Str → Option Value} {g : Array GenState} {dr : Drawn} {t : Nat} {os : OsState} {p : Ptr} {tv : Int → Option (Option Bool)} {bf : Int → Option Bool} {nf : Int → Bool} {Q : Value → Shared → Prop} {env : Env}
/-- NAME(e), a built-in type -/
theorem n_bt1 {x : Str} {np pos : Pos} {e : Expr} {T : String} (G : Good0 w h₀) (fm : Fm h₀ L hb h m) (hb' : bootBuiltins x = some (.type T)) (hm : nsIn (KK w) mainGlobals x = some none)
    (k : wpAny (MM w) A (eval e env) (fun v s₁ => wpAny (MM w) A (call (.type T) [v]) Q E s₁) E ⟨h, g, dr, t, os⟩)
    (hk : env.scope.kind = .function := by rfl) (hg : env.globals = mainGlobals := by rfl) (hbn : env.builtins = builtinsNs := by rfl) (hx : env.kindOf x = some .globalImplicit := by rfl)
    (hn : x ≠ "__name__" := by decide) (hd : (x == ("__debug__" : Str)) = false := by decide) (hs : starEach [e] env = (false, eval e env) :: starEach [] env := by rfl)
    (he : eval (.Call (.Name x np) [e] [] pos) env = (do callWith pos (← eval (.Name x np) env) [] (backTo pos (starEach [e] env)) (backToKw pos (keywordEach [] env))) := by rfl) :
    wpAny (MM w) A (eval (.Call (.Name x np) [e] [] pos) env) Q E ⟨h, g, dr, t, os⟩ := by
  refine Call_ (m_builtin G fm hb' hm hk hg hbn hx ?_ hn hd) he
  exact callWith_type1 (args_cons (wpAny_mono k (fun v s₁ q => args_nil q) fun _ _ x => x) hs) hs
theorem todict_ok (G : Good0 w h₀) (k : Keep h₀ h) (n81 : h₀.get? 81 = none) (hroom : A.depth + 5 < recursionLimit) (hh : A.handled = none) (X : St w h₀ h p tv bf nf) (hc : Cd h)
    (kk : ∀ h' t' g' d, (AllBare g → AllBare g') → h.objs.size ≤ d → h'.DictOf (IK w) d ((kn tv).map fun k => (k, ovOf tv k)) → Chg [81] h h' → Cd h' → Q (.ref d) ⟨h', g', dr, t', os⟩) :
    wpAny (MM w) A (call (.ref 136) [.ref p.x]) Q E ⟨h, g, dr, t, os⟩ := by
  have X0 := X
  obtain ⟨D, Ol, S, Gs, N, X, -, -⟩ := X
  refine m_call (binds := [("self", .ref p.x)]) G k (by omega) (fn136 w) (by kernel_rfl) (BindsTo.of_eq (by kernel_rfl)) (by kernel_rfl) ?_
  intro h₁ t₁ fm
  have k₁ : Keep h h₁ := fm.out (Nat.le_refl _)
  have z1 : h.objs.size < h₁.objs.size := fm.ns.lt
  refine wpAny_execs_cons (wpAny_Return_some (n_bt1 G fm bo_dict (b_dict w) (n_um0 G fm (X.keep k₁) (f_items w) (fn86 w) (st_items G fm.base n81 (by show A.depth + 1 + 4 < _; omega) hh (X0.keep k₁) (hc.keep k₁) fun h₂ t₂ g₂ l vs c' ab hl ho x c cd => ?_))))
  refine m_dictof hh (List.Pairwise.filter _ (by decide)) (kn_len tv) ho x fun h₃ t₃ d hd dd k₃ => ?_
  exact kk h₃ t₃ g₂ d ab (Nat.le_trans (Nat.le_of_lt z1) (Nat.le_trans hl (Nat.le_trans (Nat.le_of_lt (Heap.lt_size ho)) hd))) dd (fun b o n e => k₃ b o (c b o n (k₁ b o e))) (cd.keep k₃)
end
end
end Mine
namespace Mine
noncomputable section
section
variable {w : World} {A : Around} {E : Value → Shared → Prop} {h₀ h hb : Heap} {L : Addr} {m : Str → Option Value} {g : Array GenState} {dr : Drawn} {t : Nat} {os : OsState} {p : Ptr} {D O : List (Int × Value)} {S Gs N : Int → Bool} {Q : Value → Shared → Prop} {env : Env}
theorem m_prop {x d : Addr} {f : Str → Option Value} {name : Str} {pa fget : Addr} {rest : List Value} {ex : Bool} (X : (KK w).In h) (hx : h.get? x = some (instObj 170 d)) (hn : h.Ns d f)
    (ha : findIn (KK w) (.ref 170) name = some (some (.ref pa))) (hg : specialIn (KK w) (.ref pa) "__get__" = some (some (.builtin "property.__get__"))) (ht : takesIn (KK w) (.ref pa) = some true) (hp : recIn (KK w) pa "property" = some (.ref fget :: rest))
    (k : ∀ t', codeAny (MM w) A.in1 (.call (.ref fget) ⟨[.ref x], []⟩) (fun r s' => ∃ v, r = .ok (.ret v) ∧ wpAny (MM w) A (handedOut v) Q E s') ⟨h, g, dr, t', os⟩) : wpAny (MM w) A (getAttr (.ref x) name ex) Q E ⟨h, g, dr, t, os⟩ := by
  obtain ⟨od, I, _⟩ := inst_at hx hn
  refine get_bind (s := ⟨h, g, dr, t, os⟩) X I (c_ga w) (findObj_data (by rw [(cdC w).2]; rfl) ha hg ht) (c_gt w) (wpAny_call (prop_get (s := ⟨h, g, dr, t + 1, os⟩) X hp (codeAny_mono (k _) fun r s' q => ?_)))
  obtain ⟨v, rfl, q⟩ := q
  exact q
theorem f_num (w : World) : findIn (KK w) (.ref 170) "num_assigned" = some (some (.ref 151)) := by kernel_rfl
theorem f_asg (w : World) : findIn (KK w) (.ref 170) "assigned_ids" = some (some (.ref 159)) := by kernel_rfl
theorem f_una (w : World) : findIn (KK w) (.ref 170) "unassigned_ids" = some (some (.ref 167)) := by kernel_rfl
noncomputable def rc151 (w : World) : { r : List Value // recIn (KK w) 151 "property" = some (.ref 150 :: r) } := ⟨_, rfl⟩
noncomputable def rc159 (w : World) : { r : List Value // recIn (KK w) 159 "property" = some (.ref 158 :: r) } := ⟨_, rfl⟩
noncomputable def rc167 (w : World) : { r : List Value // recIn (KK w) 167 "property" = some (.ref 166 :: r) } := ⟨_, rfl⟩
/-- held.num_assigned -/
theorem num_ok {ex : Bool} (G : Good0 w h₀) (k : Keep h₀ h) (hroom : A.depth < recursionLimit) (X : AS w h₀ h p D O S Gs N) (kk : ∀ h' t' tk, Keep h h' → Q (.int (elts Gs).length tk) ⟨h', g, dr, t', os⟩) :
    wpAny (MM w) A (getAttr (.ref p.x) "num_assigned" ex) Q E ⟨h, g, dr, t, os⟩ := by
  refine m_prop (fget := 150) (G.X.keeps k) X.inst X.att.ns (f_num w) (by kernel_rfl) (by kernel_rfl) (rc151 w).2 fun t' => ?_
  refine m_callR (A := A.in1) (binds := [("self", .ref p.x)]) G k hroom (fn150 w) (by kernel_rfl) (BindsTo.of_eq (by kernel_rfl)) (by kernel_rfl) ?_
  intro h₁ t₁ fm
  have X₁ := X.ext fm.ext X.fresh
  exact wpAny_execs_cons (wpAny_Return_some (n_bf1 G fm boot_len (b_len w) (n_att G fm X₁ (a_asg w) fun t' => n_len X₁.asg fun t'' tk' => ⟨_, rfl, handed_on rfl (kk _ _ _ (fm.out (Nat.le_refl _)))⟩)))
/-- held.assigned_ids -/
theorem asg_ok {ex : Bool} (G : Good0 w h₀) (k : Keep h₀ h) (hroom : A.depth < recursionLimit) (X : AS w h₀ h p D O S Gs N) (kk : ∀ h' t', Keep h h' → SetI w h' p.asg Gs → Q (.ref p.asg) ⟨h', g, dr, t', os⟩) :
    wpAny (MM w) A (getAttr (.ref p.x) "assigned_ids" ex) Q E ⟨h, g, dr, t, os⟩ := by
  refine m_prop (fget := 158) (G.X.keeps k) X.inst X.att.ns (f_asg w) (by kernel_rfl) (by kernel_rfl) (rc159 w).2 fun t' => ?_
  refine m_callR (A := A.in1) (binds := [("self", .ref p.x)]) G k hroom (fn158 w) (by kernel_rfl) (BindsTo.of_eq (by kernel_rfl)) (by kernel_rfl) ?_
  intro h₁ t₁ fm
  have X₁ := X.ext fm.ext X.fresh
  exact wpAny_execs_cons (wpAny_Return_some (n_att G fm X₁ (a_asg w) fun t' => ⟨_, rfl, handed_on rfl (kk _ _ (fm.out (Nat.le_refl _)) X₁.asg)⟩))
/-- held.unassigned_ids -/
theorem una_ok {ex : Bool} (G : Good0 w h₀) (k : Keep h₀ h) (hroom : A.depth < recursionLimit) (X : AS w h₀ h p D O S Gs N) (kk : ∀ h' t' a, Keep h h' → h.objs.size ≤ a → SetI w h' a (fun j => S j && !Gs j) → Q (.ref a) ⟨h', g, dr, t', os⟩) :
    wpAny (MM w) A (getAttr (.ref p.x) "unassigned_ids" ex) Q E ⟨h, g, dr, t, os⟩ := by
  refine m_prop (fget := 166) (G.X.keeps k) X.inst X.att.ns (f_una w) (by kernel_rfl) (by kernel_rfl) (rc167 w).2 fun t' => ?_
  refine m_callR (A := A.in1) (binds := [("self", .ref p.x)]) G k hroom (fn166 w) (by kernel_rfl) (BindsTo.of_eq (by kernel_rfl)) (by kernel_rfl) ?_
  intro h₁ t₁ fm
  have X₁ := X.ext fm.ext X.fresh
  refine wpAny_execs_cons (wpAny_Return_some (n_bm1 F.plainAttrs_set F.slot_set_difference F.type_set_difference (n_att G fm X₁ (a_seen w) fun t' => ⟨_, rfl, SetI_ob X₁.seen, n_att G fm X₁ (a_asg w) fun t'' => m_difference X₁.seen X₁.asg fun h₂ s₂ i₂ => ⟨_, rfl, handed_on rfl (kk _ _ _ (fun b o e => ?_) (Nat.le_of_lt fm.ns.lt) i₂)⟩⟩)))
  have e1 := fm.out (Nat.le_refl _) b o e
  exact (s₂.2 b (Nat.ne_of_lt (Heap.lt_size e1))).trans (Heap.get?_push_of_some _ e1)
end
end
end Mine
namespace Mine
noncomputable section
theorem ck_sorted : (perm16.all fun ks => !decide (ks.Pairwise (· ≤ ·)) || ks == K3.filter fun k => ks.contains k) = true := by decide +kernel
theorem sorted_k3 {ns ns' : List Int} (p : ns'.Perm ns) (nd : ns.Nodup) (h : ∀ k ∈ ns, k ∈ K3) (s : ns'.Pairwise (· ≤ ·)) : ns' = K3.filter fun k => ns.contains k := by
  have hm := mem_perm16 (p.nodup_iff.mpr nd) fun k hk => h k (p.mem_iff.mp hk)
  have := List.all_eq_true.mp ck_sorted ns' hm
  rw [decide_eq_true s] at this
  have e : ns' = K3.filter fun k => ns'.contains k := by simpa using this
  rw [e]
  refine List.filter_congr fun k _ => ?_
  rw [Bool.eq_iff_iff, List.contains_iff_mem, List.contains_iff_mem]
  exact p.mem_iff
section
variable {w : World} {A : Around} {E : Value → Shared → Prop} {h : Heap} {g : Array GenState} {dr : Drawn} {t : Nat} {os : OsState} {a : Addr} {χ : Int → Bool} {Q : Value → Shared → Prop}
theorem hint_set {s : Shared} {r : Addr} {Q : Bool → Shared → Prop} (hT : s.TypeIs (.ref r) "set") (h : Q false s) : wpAny (MM w) A (Builtin.List.listLengthHint (.ref r)) Q E s := by
  unfold Builtin.List.listLengthHint
  refine wpAny_bind (wpAny_specialOf hT PySem.F.slot_set_len.lookup ?_)
  generalize hid : ("set.__len__" : String) = id0
  wp_delta
  rw [show splitId id0 = some ("set", "__len__") from by subst hid; decide +kernel]
  subst hid
  refine wpAny_bind (wpAny_isInstance (T := "set") (b := true) hT (by rw [isSubtype_type]; kernel_rfl) ?_)
  refine wpAny_ite_split (fun hab => absurd hab (by decide)) (fun _ => ?_)
  refine wpAny_ite_split (fun _ => ?_) (fun hab => absurd (by decide +kernel) hab)
  refine wpAny_bind (wpAny_typeOf hT ?_)
  exact wpAny_pure h
theorem kdl_set {o : Obj} {st : SSt} {es : Array (Int × Value)} {ep fg mv : Nat} (d : SetD w o st es ep fg mv) : KdlSrc PR w "set" a a es.size (fun i v => (walkOf w a ep es)[i]?.map (·.2) = some v) (fun h => h.get? a = some o) where
  type := fun s ok => ⟨o, ok, d.ex.1⟩
  there := fun h ok => ⟨Heap.lt_size ok, Heap.lt_size ok⟩
  keep := fun h h' ok k => k a (.inl rfl) o ok
  notList := by decide
  notTuple := by decide
  hint := fun A E s Q ok q => hint_set ⟨o, ok, d.ex.1⟩ q
  iter := fun A s hh ok => by
    obtain ⟨h, g, dr, t, os⟩ := s
    have lt : a < h.objs.size := Heap.lt_size ok
    refine ⟨iterObj 0 0 a es.size ep, SIter w o st es.size ep h.objs.size a, fun E Q q => m_siter ok d fun _ => q, walks_set hh d (Nat.ne_of_lt lt), ?_⟩
    have ck := List.all_eq_true.mp ck_below st d.mem
    simp only [Bool.and_eq_true, beq_iff_eq] at ck
    exact ⟨Heap.get?_push_of_some _ ok, 0, Heap.get?_push_size _ rfl, fun _ _ => ck.1.1⟩
/-- list.sort of a fresh list of ints -/
theorem sort_ints {l : Addr} {vs : List Value} {ns : List Int} {c : Nat} (ho : h.get? l = some (seqObj "list" vs.toArray c)) (hI : IntsAre vs ns) (nd : ns.Nodup) (hk : ∀ k ∈ ns, k ∈ K3)
    (kk : ∀ h' vs', h'.PlainList l vs'.toArray → IntsAre vs' (K3.filter fun k => ns.contains k) → (∀ b o, b ≠ l → h.get? b = some o → h'.get? b = some o) → Q .none ⟨h', g, dr, t, os⟩) :
    wpAny (MM w) A (call (.builtin "list.sort") [.ref l]) Q E ⟨h, g, dr, t, os⟩ := by
  have hl3 : ns.length ≤ 3 := by
    have := len_of_keys (l := ns.map fun k => (k, ())) (ks := K3) (by rw [List.map_map]; simpa [Function.comp_def] using nd) (fun x hx => by obtain ⟨k, hk', rfl⟩ := List.mem_map.mp hx; exact hk k hk')
    rwa [List.length_map] at this
  have hvl : vs.length = ns.length := by
    have := hI.sizeZ
    simp only [List.size_toArray] at this
    omega
  refine wpAny_call_entry slot_list_sort ⟨_, ho, rfl⟩ entry_list_sort (list_sort_tree (s := ⟨h, g, dr, t, os⟩) ho hI (by omega) fun out ns' a1 a2 a3 => ⟨_, rfl, ?_⟩) (args_list_sort _)
  have e := sorted_k3 a2 nd hk a3
  subst e
  have ha : l < h.objs.size := Heap.lt_size ho
  obtain ⟨e2, hat⟩ := sortedHeap_at (out := out) ho
  exact kk _ out.toList ⟨_, by simpa using hat⟩ a1 fun b o hb e => (sortedHeap_old hb (Heap.lt_size e)).trans e
/-- sorted(...) of what can be read as a row of ints -/
theorem m_sorted {T : String} {r d : Addr} {n : Nat} {P : Nat → Value → Prop} {OK : Heap → Prop} {ns : List Int} (K : KdlSrc PR w T r d n P OK) (hh : A.handled = none) (hok : OK h) (hn : n = ns.length) (nd : ns.Nodup) (hk : ∀ k ∈ ns, k ∈ K3)
    (hP : ∀ i v k, P i v → ns[i]? = some k → ∃ t, v = .int k t)
    (kk : ∀ h' t' l vs, h.get? l = none → h'.PlainList l vs.toArray → IntsAre vs (K3.filter fun k => ns.contains k) → Keep h h' → Q (.ref l) ⟨h', g, dr, t', os⟩) :
    wpAny (MM w) A (call (.builtin "sorted") [.ref r]) Q E ⟨h, g, dr, t, os⟩ := by
  have hl3 : ns.length ≤ 3 := by
    have := len_of_keys (l := ns.map fun k => (k, ())) (ks := K3) (by rw [List.map_map]; simpa [Function.comp_def] using nd) (fun x hx => by obtain ⟨k, hk', rfl⟩ := List.mem_map.mp hx; exact hk k hk')
    rwa [List.length_map] at this
  refine call_function_entry kind_sorted plain_sorted entry_sorted (args_sorted1 _) ?_
  unfold Builtin.«sorted»
  refine wpAny_bind (m := checkCount "sorted" 1 1 _) (wpAny_pure ?_)
  refine wpAny_bind (kdu_collect (A := A.in1) (s := ⟨h, g, dr, t, os⟩) K hh hok (by rw [hn, sizeLine_eq]; omega) fun h₁ t₁ acc k₁ hacc => ?_)
  replace k₁ : Keep h h₁ := k₁
  refine wpAny_bind (wpAny_newList ?_ (by rw [Array.length_toList, hacc.1, hn, sizeLine_eq]; omega))
  have hoL : (h₁.push (seqObj "list" acc.toList.toArray 0)).get? h₁.objs.size = some (seqObj "list" acc.toList.toArray 0) := Heap.get?_push_size _ rfl
  have hI : IntsAre acc.toList ns := by
    have : ∀ (l : List Value) (ns : List Int), l.length = ns.length → (∀ (i : Nat) (v : Value) (k : Int), l[i]? = some v → ns[i]? = some k → ∃ t, v = .int k t) → IntsAre l ns := by
      intro l
      induction l with
      | nil => intro ns e _; cases ns with | nil => exact .nil | cons _ _ => simp at e
      | cons v l ih =>
        intro ns e q
        cases ns with
        | nil => simp at e
        | cons k ns =>
          obtain ⟨t, rfl⟩ := q 0 v k rfl rfl
          exact .cons _ _ (ih ns (by simpa using e) fun i v k a b => q (i + 1) v k a b)
    exact this _ _ (by rw [Array.length_toList, hacc.1, hn]) fun i v k a b => hP i v k (hacc.2 i v (by rwa [Array.getElem?_toList] at a)) b
  refine wpAny_bind (wpAny_holding (sort_ints hoL hI nd hk fun h₂ vs l₂ i₂ k₂ => ?_))
  exact wpAny_pure ⟨_, rfl, kk h₂ t₁ h₁.objs.size vs (low_size k₁ (Nat.le_refl _)) l₂ i₂ fun b o e => k₂ b o (Nat.ne_of_lt (Heap.lt_size (k₁ b o e))) (Heap.get?_push_of_some _ (k₁ b o e))⟩
/-- sorted(set) -/
theorem sorted_set (hh : A.handled = none) (hS : SetI w h a χ) (kk : ∀ h' t' l vs, h.get? l = none → h'.IsList l vs.toArray → IntsAre vs (elts χ) → Keep h h' → Q (.ref l) ⟨h', g, dr, t', os⟩) : wpAny (MM w) A (call (.builtin "sorted") [.ref a]) Q E ⟨h, g, dr, t, os⟩ := by
  obtain ⟨o, st, es, ep, fg, mv, ho, d, r⟩ := hS
  obtain ⟨ks, kperm, klen, kwalk⟩ := setD_walk (a := a) d
  have kp : ks.Perm (elts χ) := kperm.trans (d.perm r)
  have hkk : (K3.filter fun k => ks.contains k) = elts χ := by
    refine List.filter_congr fun k hk => ?_
    rw [Bool.eq_iff_iff, List.contains_iff_mem, kp.mem_iff, List.mem_filter]
    exact ⟨fun q => q.2, fun q => ⟨hk, q⟩⟩
  refine m_sorted (ns := ks) (kdl_set d) hh ho klen.symm (kp.nodup_iff.mpr (List.Pairwise.filter _ (by decide))) (fun k hk => (List.mem_filter.mp (kp.mem_iff.mp hk)).1) (fun i v k e ek => ?_) fun h' t' l vs a1 a2 a3 a4 => kk h' t' l vs a1 a2.isList (hkk ▸ a3) a4
  obtain ⟨k', t', e1, e2⟩ := kwalk i v e
  rw [ek] at e1; cases e1
  exact ⟨t', e2⟩
/-- sorted(dict) -/
theorem sorted_dictP {kvs : List (Int × Value)} (hh : A.handled = none) (hd : h.DictOf (IK w) a kvs) (lo : (a == sysModules) = false) (hk : ∀ x ∈ kvs, x.1 ∈ K3)
    (kk : ∀ h' t' l vs, h.get? l = none → h'.PlainList l vs.toArray → IntsAre vs (K3.filter fun k => (kvs.map (·.1)).contains k) → Keep h h' → Q (.ref l) ⟨h', g, dr, t', os⟩) : wpAny (MM w) A (call (.builtin "sorted") [.ref a]) Q E ⟨h, g, dr, t, os⟩ := by
  obtain ⟨ep, ha⟩ := DictOf_ep hd
  obtain ⟨_, _, _, _, _, _, _, _, hnd⟩ := hd
  refine m_sorted (ns := kvs.map (·.1)) (kdl_dict (knd := IK w) (kvs := kvs) (ep := ep) lo) hh ha (by rw [List.length_map]) hnd (fun k hk' => by obtain ⟨x, hx, rfl⟩ := List.mem_map.mp hk'; exact hk x hx) (fun i v k e ek => ?_) kk
  obtain ⟨k', x', e1, e2⟩ := e
  rw [List.getElem?_map, e1] at ek
  cases ek
  exact Value.isInt_shape e2
theorem sorted_dict {kvs : List (Int × Value)} (hh : A.handled = none) (hd : h.DictOf (IK w) a kvs) (lo : (a == sysModules) = false) (hk : ∀ x ∈ kvs, x.1 ∈ K3)
    (kk : ∀ h' t' l vs, h.get? l = none → h'.IsList l vs.toArray → IntsAre vs (K3.filter fun k => (kvs.map (·.1)).contains k) → Keep h h' → Q (.ref l) ⟨h', g, dr, t', os⟩) : wpAny (MM w) A (call (.builtin "sorted") [.ref a]) Q E ⟨h, g, dr, t, os⟩ :=
  sorted_dictP hh hd lo hk fun h' t' l vs a b c e => kk h' t' l vs a b.isList c e
/-- sorted(list of ints) -/
theorem sorted_list {vs : List Value} {ns : List Int} (hl : h.IsList a vs.toArray) (hI : IntsAre vs ns) (nd : ns.Nodup) (hk : ∀ k ∈ ns, k ∈ K3)
    (kk : ∀ h' t' l vs, h.get? l = none → h'.IsList l vs.toArray → IntsAre vs (K3.filter fun k => ns.contains k) → Keep h h' → Q (.ref l) ⟨h', g, dr, t', os⟩) : wpAny (MM w) A (call (.builtin "sorted") [.ref a]) Q E ⟨h, g, dr, t, os⟩ := by
  have hl3 : ns.length ≤ 3 := by
    have := len_of_keys (l := ns.map fun k => (k, ())) (ks := K3) (by rw [List.map_map]; simpa [Function.comp_def] using nd) (fun x hx => by obtain ⟨k, hk', rfl⟩ := List.mem_map.mp hx; exact hk k hk')
    rwa [List.length_map] at this
  have hvl : vs.length = ns.length := by
    have := hI.sizeZ
    simp only [List.size_toArray] at this
    omega
  refine PyProof.Rows.sorted_ints (s := ⟨h, g, dr, t, os⟩) hl hI (by omega) fun out ns' a1 a2 a3 => ?_
  have e := sorted_k3 a2 nd hk a3
  subst e
  obtain ⟨e, hat⟩ := sortedAll_at h vs out
  exact kk _ t _ out.toList (low_size (Keep.refl h) (Nat.le_succ _)) ⟨_, by simpa using hat, rfl, _, rfl⟩ a1 fun b o e => sortedAll_old e
end
end
end Mine
namespace Mine
noncomputable section
/-- the log that the law writes -/
noncomputable def llog (tj bj : Int → Option Bool) (ks : List Int) : List (Int × Option Bool × Option Bool) := (ks.filter fun k => tj k != bj k).map fun k => (k, bj k, tj k)
theorem bv_beq (a b : Option Bool) : (bv a == bv b) = (a == b) := by
  cases a with
  | none => cases b with
    | none => rfl
    | some b => rfl
  | some a => cases b with
    | none => rfl
    | some b => cases a <;> cases b <;> rfl
theorem bv_plain (a b : Option Bool) : plainIs (bv a) (bv b) = true := by cases a <;> cases b <;> rfl
section
variable {w : World} {A : Around} {E : Value → Shared → Prop} {h₀ h hb hr : Heap} {L : Addr} {m : Str → Option Value} {g : Array GenState} {dr : Drawn} {t : Nat} {os : OsState} {Q : Value → Shared → Prop} {env : Env} {T B : List (Int × Value)} {td bd d I tp : Addr} {tj bj : Int → Option Bool} {R : Result → Shared → Prop}
/-- NAME.get(key) of a local dict -/
theorem n_lget {x y : Str} {np apos yp pos : Pos} {a : Addr} {kvs : List (Int × Value)} {k : Int} {tk : Tok} (fm : Fm h₀ L hb h m) (hd : h.DictOf (IK w) a kvs) (hs : (a == sysModules) = false) (kk : ∀ t', Q ((valueAt kvs k).getD .none) ⟨h, g, dr, t', os⟩)
    (hx : m x = some (.ref a) := by rfl) (hy : m y = some (.int k tk) := by rfl) (hk : env.scope.kind = .function := by rfl) (hL : env.locals = L := by rfl) (hlx : env.kindOf x = some .local := by rfl) (hly : env.kindOf y = some .local := by rfl)
    (hdx : (x == ("__debug__" : Str)) = false := by decide) (hdy : (y == ("__debug__" : Str)) = false := by decide)
    (he : eval (.Call (.Attribute (.Name x np) "get" apos) [.Name y yp] [] pos) env = (do
      let ov ← eval (.Name x np) env
      standAt apos.atName
      let (f, first) ← holding [ov] (getMethod ov "get" (do return ((← importBound (.Name x np) env).getD true)))
      callWith pos f first (backTo pos (starEach [.Name y yp] env)) []) := by rfl) :
    wpAny (MM w) A (eval (.Call (.Attribute (.Name x np) "get" apos) [.Name y yp] [] pos) env) Q E ⟨h, g, dr, t, os⟩ :=
  n_bm1 F.plainAttrs_dict F.slot_dict_get F.type_dict_get (m_name fm hx hk hL hlx ⟨_, rfl, DictOf_ob hd, m_name fm hy hk hL hly (n_get1 (k := k) (tk := tk) hd hs kk) hdy⟩ hdx) he rfl
theorem llog_snoc (tj bj : Int → Option Bool) (ks : List Int) (k : Int) : llog tj bj (ks ++ [k]) = llog tj bj ks ++ (if tj k != bj k then [(k, bj k, tj k)] else []) := by
  unfold llog
  rw [List.filter_append, List.map_append]
  congr 1
  by_cases e : (tj k != bj k) = true
  · simp [e]
  · simp [e]
theorem llog_keys (tj bj : Int → Option Bool) (ks : List Int) {k : Int} (h : k ∈ (llog tj bj ks).map (·.1)) : k ∈ ks := by
  unfold llog at h
  simp only [List.map_map, List.mem_map, List.mem_filter, Function.comp] at h
  obtain ⟨x, ⟨hx, _⟩, rfl⟩ := h
  exact hx
noncomputable abbrev llBody (p1 p2 p3 p4 p5 p6 p7 p8 p9 p10 p11 p12 p13 p14 p15 p16 p17 p18 p19 p20 p21 p22 : Pos) (k1 : Nat) : List Stmt :=
  [.If (.Compare (.Call (.Attribute (.Name "told" p1) "get" p2) [.Name "key" p3] [] p4) [.IsNot] [.Call (.Attribute (.Name "before" p5) "get" p6) [.Name "key" p7] [] p8] p9)
    [.Assign [.Subscript (.Name "log" p10) (.Name "key" p11) p12] (.Tuple [.Call (.Attribute (.Name "before" p13) "get" p14) [.Name "key" p15] [] p16, .Call (.Attribute (.Name "told" p17) "get" p18) [.Name "key" p19] [] p20] k1 p21) p22] [] p9]
/-- the rounds of _law_log -/
theorem ll_loop {stm : List Stmt} {px : Pos} {vs : List Value} (hstm : stm = ((bdOf (fdOf (ob181 w).1)).drop 1).head?.elim [] fun | .For _ _ b _ _ => b | _ => []) (G : Good0 w h₀) (hh : A.handled = none) (kr : Keep h₀ hr) (hT : hr.DictOf (IK w) td T) (hB : hr.DictOf (IK w) bd B) (sT : (td == sysModules) = false) (sB : (bd == sysModules) = false)
    (ht : ∀ k ∈ K3, (valueAt T k).getD .none = bv (tj k)) (hbj : ∀ k ∈ K3, (valueAt B k).getD .none = bv (bj k)) (fL : hr.objs.size ≤ L) (fd : hr.objs.size ≤ d) (fI : hr.objs.size ≤ I) (dL : d ≠ L) (dI : d ≠ I) (IL : I ≠ L) (tL : tp ≠ L) (tI : tp ≠ I) (tD : tp ≠ d)
    (hvs : IntsAre vs K3)
    (kk : ∀ h' t' m', Fm h₀ L h' h' m' → m' "log" = some (.ref d) → LogAt w h' d (llog tj bj K3) → Keep hr h' → R (.ok .next) ⟨h', g, dr, t', os⟩) :
    ∀ (n i : Nat) (h : Heap) (t : Nat) (m : Str → Option Value), i + n = 3 → Fm h₀ L h h m → m "told" = some (.ref td) → m "before" = some (.ref bd) → m "log" = some (.ref d) → h.IsTupleIter I tp i → h.IsTuple tp vs.toArray → LogAt w h d (llog tj bj (K3.take i)) → Keep hr h →
      codeAny (MM w) A (.forLoop (.Name "key" px) (.ref I) stm [] (envA (ob181 w).1 181 L)) R ⟨h, g, dr, t, os⟩ := by
  have lI : h₀.get? I = none := low_size kr fI
  have ld : h₀.get? d = none := low_size kr fd
  intro n
  induction n with
  | zero =>
    intro i h t m hi fm e1 e2 e3 hit htp lg kp
    have : i = 3 := by omega
    subst this
    have hx : vs.toArray[3]? = none := by
      have := hvs.sizeZ
      rw [Array.getElem?_eq_none_iff]
      simp only [List.size_toArray] at this ⊢
      have : K3.length = 3 := rfl
      omega
    refine f_none (wpAny_pyNext_tuple_end (s := ⟨h, g, dr, t, os⟩) hh hit htp hx fun h₁ x₁ => ⟨rfl, wpAny_execs_nil ?_⟩)
    have c₁ : Chg [I] h h₁ := fun b o n e => x₁ b o (by simpa using n) e
    have tupI : ∀ b ∈ [I], ∀ u v, h.get? b ≠ some (tup2 u v) := fun b hb u v e => by
      rw [List.mem_singleton] at hb; subst hb
      obtain ⟨_, ho, hc, _⟩ := hit
      exact ne_cls e ho rfl hc (by decide) rfl
    exact kk h₁ t m (fm.chg c₁ (by simpa using Ne.symm IL) (fun b hb => by rw [List.mem_singleton] at hb; subst hb; exact lI)) e3 (lg.chg c₁ (by simpa using dI) tupI) fun b o e => x₁ b o (Nat.ne_of_lt (Nat.lt_of_lt_of_le (Heap.lt_size e) fI)) (kp b o e)
  | succ n ih =>
    intro i h t m hi fm e1 e2 e3 hit htp lg kp
    have hik : i < K3.length := by show i < 3; omega
    have hlen : vs.length = K3.length := by
      have := hvs.sizeZ
      simp only [List.size_toArray] at this
      omega
    have hvi : i < vs.length := by omega
    obtain ⟨key, tk, hv, hkey⟩ := hvs.at i vs[i] (List.getElem?_eq_getElem hvi)
    have hk3 : key ∈ K3 := List.mem_of_getElem? hkey
    have htk := take_succ' hkey
    refine f_some (wpAny_pyNext_tuple_item (s := ⟨h, g, dr, t, os⟩) hit htp (x := .int key tk) (by rw [List.getElem?_toArray, List.getElem?_eq_getElem hvi, hv]) fun h₁ it₁ s₁ => ⟨_, rfl, ?_⟩)
    replace s₁ : Heap.SameBut I h h₁ := s₁
    refine wpAny_of_eq (rfl : letOwnedTupleGo (.Name "key" px) (.ref I) (.int key tk) = pure ()) ?_
    have fm₁ := fm.turn s₁ IL lI
    refine wpAny_assign_Name (m_store fm₁ rfl rfl fun h₂ t₂ fm₂ => ?_)
    have c₁ : Chg [I] h h₁ := Chg.of_same s₁ (by simp)
    have c₂ : Chg [L] h₁ h₂ := fun b o n e => fm₂.ext b o (by simpa using n) e
    have tupI : ∀ b ∈ [I], ∀ u v, h.get? b ≠ some (tup2 u v) := fun b hb u v e => by
      rw [List.mem_singleton] at hb; subst hb
      obtain ⟨_, ho, hc, _⟩ := hit
      exact ne_cls e ho rfl hc (by decide) rfl
    have tupL : ∀ b ∈ [L], ∀ u v, h₁.get? b ≠ some (tup2 u v) := fun b hb u v e => by
      rw [List.mem_singleton] at hb; subst hb
      obtain ⟨_, _, _, ho, hd, _⟩ := fm₁.ns
      rw [ho] at e; cases e; cases hd
    have lg₂ := (lg.chg c₁ (by simpa using dI) tupI).chg c₂ (by simpa using dL) tupL
    have kp₂ : Keep hr h₂ := fun b o e => c₂ b o (by rw [List.mem_singleton]; exact Nat.ne_of_lt (Nat.lt_of_lt_of_le (Heap.lt_size e) fL)) (c₁ b o (by rw [List.mem_singleton]; exact Nat.ne_of_lt (Nat.lt_of_lt_of_le (Heap.lt_size e) fI)) (kp b o e))
    have it₂ : h₂.IsTupleIter I tp (i + 1) := by obtain ⟨o, ho, r⟩ := it₁; exact ⟨o, c₂ _ _ (by simpa using IL) ho, r⟩
    have tp₂ : h₂.IsTuple tp vs.toArray := by obtain ⟨o, ho, r⟩ := htp; exact ⟨o, c₂ _ _ (by simpa using tL) (c₁ _ _ (by simpa using tI) ho), r⟩
    have T₂ := DictOf_at hT fun o e => kp₂ _ o e
    have B₂ := DictOf_at hB fun o e => kp₂ _ o e
    subst hstm
    refine wpAny_execs_cons (wpAny_If (wpAny_isTrue_Compare1 (n_lget (k := key) (tk := tk) fm₂ T₂ sT (fun t₃ => ?_) e1)))
    refine n_lget (k := key) (tk := tk) fm₂ B₂ sB (fun t₄ => ?_) e2
    rw [ht key hk3, hbj key hk3]
    refine wpAny_isNot_plain (bv_plain _ _) (wpAny_truthy_bool ?_)
    rw [bv_beq]
    cases hne : (tj key == bj key) with
    | true =>
      refine wpAny_execs_nil (wpAny_execs_nil ?_)
      refine ih (i + 1) h₂ _ _ (by omega) fm₂.here (by exact e1) (by exact e2) (by exact e3) it₂ tp₂ ?_ kp₂
      rw [htk, llog_snoc, if_neg (by simp [bne, hne]), List.append_nil]
      exact lg₂
    | false =>
      refine wpAny_execs_cons (wpAny_Assign_Subscript (wpAny_Tuple (args_cons (n_lget (k := key) (tk := tk) fm₂ B₂ sB (fun t₅ => args_cons (n_lget (k := key) (tk := tk) fm₂ T₂ sT (fun t₆ => args_nil ⟨by rw [sizeLine_eq]; show 2 ≤ _; decide, ?_⟩) e1) rfl) e2) rfl)))
      rw [ht key hk3, hbj key hk3]
      have fm₃ := fm₂.push (tup2 (bv (bj key)) (bv (tj key)))
      have k₃ : Keep h₂ (h₂.push (tup2 (bv (bj key)) (bv (tj key)))) := fun b o e => Heap.get?_push_of_some _ e
      have hTup : (h₂.push (tup2 (bv (bj key)) (bv (tj key)))).get? h₂.objs.size = some (tup2 (bv (bj key)) (bv (tj key))) := Heap.get?_push_size _ rfl
      show wpAny _ _ _ _ _ ⟨h₂.push (tup2 (bv (bj key)) (bv (tj key))), g, dr, _, os⟩
      have z₂ : d < h₂.objs.size := let ⟨_, ⟨_, _, _, ho, _⟩, _⟩ := lg₂; Heap.lt_size ho
      generalize h₂.push (tup2 (bv (bj key)) (bv (tj key))) = h₃ at fm₃ k₃ hTup ⊢
      obtain ⟨kvs, dd, lp⟩ := lg₂
      have hl3 : kvs.length ≤ 3 := by
        rw [lp.len]; unfold llog; rw [List.length_map]
        exact Nat.le_trans (List.length_filter_le _ _) (Nat.le_trans (List.length_take_le _ _) (by omega))
      refine n_loc fm₃ (v := .ref d) (n_loc fm₃ (v := .int key tk) ?_) e3
      refine n_setitem (k := key) (tk := tk) (DictOf_at dd fun o e => k₃ _ o e) (by omega) fun h₄ t₄ s₄ d₄ => ?_
      have hnew : key ∉ kvs.map (·.1) := by
        rw [lp.1]
        intro q
        have q' := llog_keys _ _ _ q
        have : (K3.take (i + 1)).Nodup := List.Nodup.sublist (List.take_sublist _ _) (by decide)
        rw [htk] at this
        exact (List.nodup_append.mp this).2.2 _ q' _ (by simp) rfl
      rw [stored_new hnew] at d₄
      refine wpAny_execs_nil ?_
      have fm₄ := fm₃.turn s₄ dL ld
      have up4 : ∀ b o, b ≠ d → h₂.get? b = some o → h₄.get? b = some o := fun b o hb e => (s₄.2 b hb).trans (k₃ b o e)
      refine wpAny_execs_nil (ih (i + 1) h₄ _ _ (by omega) fm₄ (by exact e1) (by exact e2) (by exact e3) (by obtain ⟨o, ho, r⟩ := it₂; exact ⟨o, up4 _ _ (Ne.symm dI) ho, r⟩) (by obtain ⟨o, ho, r⟩ := tp₂; exact ⟨o, up4 _ _ tD ho, r⟩) ?_ fun b o e => up4 b o (Nat.ne_of_lt (Nat.lt_of_lt_of_le (Heap.lt_size e) fd)) (kp₂ b o e))
      rw [htk, llog_snoc, if_pos (by simp [bne, hne])]
      have dcls : ∃ o, h₂.get? d = some o ∧ o.cls = .type "dict" := let ⟨o, ho, hc, _⟩ := DictOf_ob dd; ⟨o, ho, hc⟩
      obtain ⟨od, hod, hcd⟩ := dcls
      refine ⟨_, d₄, (lp.at fun b u v e => up4 b _ (ne_cls e hod rfl hcd (by decide)) e).snoc ((s₄.2 _ (Nat.ne_of_gt z₂)).trans hTup)⟩
theorem lawlog_ok (G : Good0 w h₀) (k : Keep h₀ h) (hroom : A.depth < recursionLimit) (hh : A.handled = none) (hT : h.DictOf (IK w) td T) (hB : h.DictOf (IK w) bd B) (sT : (td == sysModules) = false) (sB : (bd == sysModules) = false)
    (ht : ∀ k ∈ K3, (valueAt T k).getD .none = bv (tj k)) (hbj : ∀ k ∈ K3, (valueAt B k).getD .none = bv (bj k))
    (kk : ∀ h' t' d, h.get? d = none → (d == sysModules) = false → LogAt w h' d (llog tj bj K3) → Keep h h' → Q (.ref d) ⟨h', g, dr, t', os⟩) :
    wpAny (MM w) A (call (.ref 181) [.ref td, .ref bd]) Q E ⟨h, g, dr, t, os⟩ := by
  refine m_call (binds := [("told", .ref td), ("before", .ref bd)]) G k hroom (fn181 w) (by kernel_rfl) (BindsTo.of_eq (by kernel_rfl)) (by kernel_rfl) ?_
  intro h₁ t₁ fm
  have k₁ : Keep h h₁ := fm.out (Nat.le_refl _)
  refine wpAny_execs_cons (wpAny_Assign_Name (wpAny_Dict_empty ?_))
  have d₂ := Heap.DictOf.new (knd := IK w) h₁
  have fm₂ := fm.push { cls := .type "dict", data := .dict #[] }
  have k₂ : Keep h₁ (h₁.push { cls := .type "dict", data := .dict #[] }) := fun b o e => Heap.get?_push_of_some _ e
  show wpAny _ _ _ _ _ ⟨h₁.push { cls := .type "dict", data := .dict #[] }, g, dr, t₁, os⟩
  have z1 : h.objs.size < h₁.objs.size := fm.ns.lt
  generalize h₁.push { cls := .type "dict", data := .dict #[] } = h₂ at d₂ fm₂ k₂ ⊢
  refine m_store fm₂.here rfl rfl fun h₃ t₃ fm₃ => ?_
  have k₃ : Keep h h₃ := fun b o e => fm₃.ext b o (Nat.ne_of_lt (Heap.lt_size e)) (k₂ b o (k₁ b o e))
  have d₃ : h₃.DictOf (IK w) h₁.objs.size [] := DictOf_at d₂ fun o e => fm₃.ext _ o (Nat.ne_of_gt z1) e
  refine wpAny_execs_cons (wpAny_For ?_)
  refine wpAny_Tuple (args_cons (wpAny_Constant_int (args_cons (wpAny_Constant_int (args_cons (wpAny_Constant_int (args_nil ⟨by rw [sizeLine_eq]; show 3 ≤ _; decide, ?_⟩)) rfl)) rfl)) rfl)
  generalize hvs : [Value.int 3 _, Value.int 8 _, Value.int 16 _] = vs
  have hI : IntsAre vs K3 := by rw [← hvs]; exact .cons _ _ (.cons _ _ (.cons _ _ .nil))
  dsimp only
  have fm₄ := fm₃.here.push { cls := .type "tuple", data := .seq vs.toArray }
  have k₄ : Keep h₃ (h₃.push { cls := .type "tuple", data := .seq vs.toArray }) := fun b o e => Heap.get?_push_of_some _ e
  have z₄ : (h₃.push { cls := .type "tuple", data := .seq vs.toArray }).objs.size = h₃.objs.size + 1 := Heap.size_push ..
  have t₄ : (h₃.push { cls := .type "tuple", data := .seq vs.toArray }).IsTuple h₃.objs.size vs.toArray := ⟨_, Heap.get?_push_size _ rfl, rfl, _, rfl⟩
  generalize h₃.push { cls := .type "tuple", data := .seq vs.toArray } = h₄ at fm₄ k₄ z₄ t₄ ⊢
  refine wpAny_pyIter_tuple (s := ⟨h₄, g, dr, _, os⟩) t₄ ?_
  have fm₅ := fm₄.push { cls := .type "tuple_iterator", data := .fields #[.ref h₃.objs.size, .int 0 0] }
  have k₅ : Keep h₄ (h₄.push { cls := .type "tuple_iterator", data := .fields #[.ref h₃.objs.size, .int 0 0] }) := fun b o e => Heap.get?_push_of_some _ e
  have it₅ : (h₄.push { cls := .type "tuple_iterator", data := .fields #[.ref h₃.objs.size, .int 0 0] }).IsTupleIter h₄.objs.size h₃.objs.size 0 := ⟨_, Heap.get?_push_size _ rfl, rfl, rfl⟩
  show codeAny _ _ _ _ ⟨h₄.push { cls := .type "tuple_iterator", data := .fields #[.ref h₃.objs.size, .int 0 0] }, g, dr, _, os⟩
  generalize h₄.push { cls := .type "tuple_iterator", data := .fields #[.ref h₃.objs.size, .int 0 0] } = h₅ at fm₅ k₅ it₅ ⊢
  have zd : h₁.objs.size < h₃.objs.size := let ⟨_, _, _, ho, _⟩ := d₃; Heap.lt_size ho
  have zL : h.objs.size < h₃.objs.size := fm₃.ns.lt
  have q1 : h₁.objs.size ≠ h₄.objs.size := by omega
  have q2 : h₄.objs.size ≠ h.objs.size := by omega
  have q3 : h₃.objs.size ≠ h₄.objs.size := by omega
  have q4 : h₃.objs.size ≠ h₁.objs.size := by omega
  have q5 : h.objs.size ≤ h₄.objs.size := by omega
  refine ll_loop (A := A.deeper (envA (ob181 w).1 181 h.objs.size)) (hr := h) (L := h.objs.size) (d := h₁.objs.size) (I := h₄.objs.size) (tp := h₃.objs.size) rfl G hh k hT hB sT sB ht hbj (Nat.le_refl _) (Nat.le_of_lt z1) q5 (Nat.ne_of_gt z1) q1 q2 (Nat.ne_of_gt zL) q3 q4 hI ?_ 3 0 h₅ _ _ rfl fm₅.here rfl rfl rfl it₅ (by obtain ⟨o, ho, r⟩ := t₄; exact ⟨o, k₅ _ _ ho, r⟩)
    ⟨[], DictOf_at d₃ fun o e => k₅ _ o (k₄ _ o e), LogP.nil _⟩ (k₃.trans (k₄.trans k₅))
  intro h₆ t₆ m₆ fm₆ e6 lg k₆
  refine wpAny_execs_cons (wpAny_Return_some (n_loc fm₆ (v := .ref h₁.objs.size) ?_ e6))
  exact kk h₆ t₆ _ (low_size (Keep.refl h) (Nat.le_of_lt z1)) (G.sys k (Nat.le_of_lt z1)) lg k₆
end
end
end Mine
namespace Mine
noncomputable section
section
variable {w : World} {A : Around} {E : Value → Shared → Prop} {h₀ h hb hr : Heap} {L : Addr} {m : Str → Option Value} {g : Array GenState} {dr : Drawn} {t : Nat} {os : OsState} {Q : Value → Shared → Prop} {env : Env}
theorem bare_ok {a : Addr} {us : List (Option Bool)} (G : Good0 w h₀) (k : Keep h₀ h) (hroom : A.depth < recursionLimit) (hu : A.units + 10 < cLine) (hh : A.handled = none) (hl : h.IsList a (us.map bv).toArray) (hn : us.length < 1000)
    (kk : ∀ h' t', Keep h h' → Q (.bool true) ⟨h', g, dr, t', os⟩) : wpAny (MM w) A (call (.ref 198) [.ref a]) Q E ⟨h, g, dr, t, os⟩ := by
  refine m_call (binds := [("sides", .ref a)]) G k hroom (fn198 w) (by kernel_rfl) (BindsTo.of_eq (by kernel_rfl)) (by kernel_rfl) ?_
  intro h₁ t₁ fm
  have k₁ : Keep h h₁ := fm.out (Nat.le_refl _)
  refine wpAny_execs_cons (wpAny_Return_some (wpAny_Compare1 ?_))
  rw [eval_ListComp]
  refine wpAny_comprehension_free (use := none) (cl := []) rfl (fun _ => rfl) rfl rfl (by decide) ?_
  refine n_loc fm (v := .ref a) ?_
  refine lc_list (J := fun _ ys _ => ys = []) (vs := us.map bv) hh (hl.at fun o e => k₁ _ o e) (by rw [List.length_map]; exact hn) (by decide) (by rfl) (fun _ _ _ _ j _ => j) rfl ?_ ?_
  · intro C I i v h' t' m ys hC hi hv hy hns kp hit j
    rw [List.getElem?_map] at hv
    obtain ⟨u, hu', rfl⟩ := Option.map_eq_some_iff.mp hv
    refine rd_name rfl rfl rfl hns fun h₄ t₄ s₄ n₄ => ?_
    have fin : ∀ t', ∃ h₅ t₅, (⟨h₄, g, dr, t', os⟩ : Shared) = ⟨h₅, g, dr, t₅, os⟩ ∧ Keep h₄ h₅ ∧ ys = [] := fun t' => ⟨h₄, t', rfl, Keep.refl _, j⟩
    refine tests1 (isTrue_not (isTrue_or (wpAny_isTrue_Compare1 (wpAny_Name (wpAny_loadName_local rfl rfl n₄ rfl (Constant_none (wpAny_is_plain (bv_plain u none) (wpAny_truthy_bool ?_)))) (by decide)))))
    cases u with
    | none => exact fin _
    | some b =>
      show wpAny _ _ _ _ _ _
      refine isTrue_or (wpAny_isTrue_Compare1 (wpAny_Name (wpAny_loadName_local rfl rfl n₄ rfl (Constant_bool (wpAny_is_plain rfl (wpAny_truthy_bool ?_)))) (by decide)))
      cases b with
      | true => exact fin _
      | false =>
        show wpAny _ _ _ _ _ _
        refine isTrue_or (wpAny_isTrue_Compare1 (wpAny_Name (wpAny_loadName_local rfl rfl n₄ rfl (Constant_bool (wpAny_is_plain rfl (wpAny_truthy_bool ?_)))) (by decide)))
        exact fin _
  · intro C D h' t' m ys hC hD hCD hy hns hpl kp j
    subst j
    refine ⟨m, hns, fun h'' s'' => ?_⟩
    obtain ⟨n, hD'⟩ := hpl
    have hD'' := (s''.2 D (Ne.symm hCD)).trans hD'
    refine wpAny_List (args_nil ⟨Nat.zero_le _, ?_⟩)
    have k3 : Keep h'' (h''.push { cls := .type "list", data := .seq ([] : List Value).toArray }) := fun b o e => Heap.get?_push_of_some _ e
    refine SeqAt.compareEq_reads (da := .list []) (db := .list []) (Reads.list (k3 _ _ hD'') rfl rfl .nil) (Reads.list (Heap.get?_push_size _ rfl) rfl rfl .nil) rfl rfl ?_ ?_
    · have e1 : min (PyData.depth (.list [])) (PyData.depth (.list [])) ≤ 2 := by decide
      have e2 : (A.deeper (envA (ob198 w).1 198 h.objs.size)).units = A.units + 3 := rfl
      omega
    · refine kk _ _ fun b o e => k3 b o ((s''.2 b ?_).trans (kp b o (k₁ b o e)))
      exact Nat.ne_of_lt (Nat.lt_of_lt_of_le (Heap.lt_size (k₁ b o e)) hC)
end
end
end Mine
namespace Mine
noncomputable section
theorem bo_ke : bootBuiltins "KeyError" = some (.type "KeyError") := excClass_KeyError.boot
theorem b_ke (w : World) : nsIn (KK w) mainGlobals "KeyError" = some none := by kernel_rfl
section
variable {w : World} {A : Around} {E : Value → Shared → Prop} {h₀ h hb hr : Heap} {L : Addr} {m : Str → Option Value} {g : Array GenState} {dr : Drawn} {t : Nat} {os : OsState} {Q : Value → Shared → Prop} {env : Env} {p : Ptr} {D O : List (Int × Value)} {S Gs N : Int → Bool} {key : Int} {tk : Tok}
/-- held[key], the value there or None -/
theorem gi_val (G : Good0 w h₀) (k : Keep h₀ h) (hroom : A.depth < recursionLimit) (X : AS w h₀ h p D O S Gs N) (hv : (valueAt D key).getD .none ≠ .none ∨ S (ab key) = true) (hp : ∃ u, (valueAt D key).getD .none = bv u)
    (kk : ∀ h' t', Keep h h' → Q ((valueAt D key).getD .none) ⟨h', g, dr, t', os⟩) : wpAny (MM w) A (call (.ref 50) [.ref p.x, .int key tk]) Q E ⟨h, g, dr, t, os⟩ := by
  refine m_call (binds := [("self", .ref p.x), ("key", .int key tk)]) G k hroom (fn50 w) (by kernel_rfl) (BindsTo.of_eq (by kernel_rfl)) (by kernel_rfl) ?_
  intro h₁ t₁ fm
  have X₁ := X.ext fm.ext X.fresh
  have k₁ : Keep h h₁ := fm.out (Nat.le_refl _)
  refine wpAny_execs_cons (wpAny_Assign_Name (n_bm1 F.plainAttrs_dict F.slot_dict_get F.type_dict_get (n_att G fm X₁ (a_data w) fun t' => ⟨_, rfl, DictOf_ob X₁.data, n_loc fm (n_get1 (k := key) (tk := tk) X₁.data (X.sys _ (by simp)) fun t₂ => m_store fm.here rfl rfl fun h₂ t₃ fm₂ => ?_)⟩)))
  have X₂ := X₁.ext fm₂.ext X.fresh
  have k₂ : Keep h h₂ := fun b o e => fm₂.ext b o (Nat.ne_of_lt (Heap.lt_size e)) (k₁ b o e)
  obtain ⟨u, hu⟩ := hp
  rw [hu] at fm₂ kk hv
  have ret : ∀ t', wpAny (MM w) (A.deeper (envA (ob50 w).1 50 h.objs.size)) (execs ((bdOf (fdOf (ob50 w).1)).drop 2) (envA (ob50 w).1 50 h.objs.size)) (fun fl s' => Q (match fl with | .ret v => v | _ => .none) s')
      (fun e s' => wpAny (MM w) (A.deeper (envA (ob50 w).1 50 h.objs.size)) (leaving (envA (ob50 w).1 50 h.objs.size) e) (fun _ s'' => E e s'') E s') ⟨h₂, g, dr, t', os⟩ := fun t' => wpAny_execs_cons (wpAny_Return_some (n_loc fm₂ (v := bv u) (kk _ _ k₂)))
  refine wpAny_execs_cons (wpAny_If (isTrue_and (wpAny_isTrue_Compare1 (n_loc fm₂ (v := bv u) (Constant_none (wpAny_is_plain (bv_plain u none) (wpAny_truthy_bool ?_)))))))
  cases u with
  | some b => exact wpAny_execs_nil (ret _)
  | none =>
    have hS : S (ab key) = true := hv.elim (fun q => absurd rfl q) id
    show wpAny _ _ _ _ _ _
    refine isTrue_and (wpAny_isTrue_Compare1 (n_bf1 G fm₂ boot_abs (b_abs w) (n_loc fm₂ (v := .int key tk) (call_abs_int fun u tk' => n_att G fm₂ X₂ (a_seen w) fun t' => n_notin X₂.seen fun t'' => wpAny_truthy_bool ?_))))
    rw [show S (if key < 0 then -key else key) = true from hS]
    exact wpAny_execs_nil (ret _)
/-- held[key], KeyError -/
theorem gi_raise {outer : List Env} (G : Good0 w h₀) (k : Keep h₀ h) (hroom : A.depth < recursionLimit) (hh : A.handled = none) (X : AS w h₀ h p D O S Gs N) (hv : valueAt D key = none) (hS : S (ab key) = false) (hfr : A.frames = some outer) (hl : h.FunFrames {} outer)
    (kE : ∀ h' t' e a0, Heap.FlyingW (hideAll h (outer.filterMap (·.frame))) outer e (.type "KeyError") a0 h' → h.UpToSlots h' → E (.ref e) ⟨h', g, dr, t', os⟩) : wpAny (MM w) A (call (.ref 50) [.ref p.x, .int key tk]) Q E ⟨h, g, dr, t, os⟩ := by
  refine m_call (binds := [("self", .ref p.x), ("key", .int key tk)]) G k hroom (fn50 w) (by kernel_rfl) (BindsTo.of_eq (by kernel_rfl)) (by kernel_rfl) ?_
  intro h₁ t₁ fm
  have X₁ := X.ext fm.ext X.fresh
  have k₁ : Keep h h₁ := fm.out (Nat.le_refl _)
  refine wpAny_execs_cons (wpAny_Assign_Name (n_bm1 F.plainAttrs_dict F.slot_dict_get F.type_dict_get (n_att G fm X₁ (a_data w) fun t' => ⟨_, rfl, DictOf_ob X₁.data, n_loc fm (n_get1 (k := key) (tk := tk) X₁.data (X.sys _ (by simp)) fun t₂ => m_store fm.here rfl rfl fun h₂ t₃ fm₂ => ?_)⟩)))
  rw [hv] at fm₂
  have X₂ := X₁.ext fm₂.ext X.fresh
  have k₂ : Keep h h₂ := fun b o e => fm₂.ext b o (Nat.ne_of_lt (Heap.lt_size e)) (k₁ b o e)
  refine wpAny_execs_cons (wpAny_If (isTrue_and (wpAny_isTrue_Compare1 (n_loc fm₂ (v := .none) (Constant_none (wpAny_is_self rfl (wpAny_truthy_bool ?_)))))))
  rw [if_pos rfl]
  refine isTrue_and (wpAny_isTrue_Compare1 (n_bf1 G fm₂ boot_abs (b_abs w) (n_loc fm₂ (v := .int key tk) (call_abs_int fun u tk' => n_att G fm₂ X₂ (a_seen w) fun t' => n_notin X₂.seen fun t'' => wpAny_truthy_bool ?_))))
  rw [show S (if key < 0 then -key else key) = false from hS, if_pos (by rfl)]
  refine isTrue_and_nil ?_
  rw [if_pos rfl]
  refine wpAny_execs_cons (Raise_new hh (n_bt1 G fm₂ bo_ke (b_ke w) (n_loc fm₂ (v := .int key tk) (call_exc_raise excClass_KeyError (fun h₃ e hx => ?_) (by show 1 ≤ _; rw [sizeLine_eq]; decide)))))
  obtain ⟨ob, a0, he, hcls, hd⟩ := hx.there
  have st : (hideAll h (outer.filterMap (·.frame))).StaysIn h₃ := fun b o e => hx.keeps b o (k₂ b o (of_hideAll _ e))
  have ff : h₃.FunFrames (hideAll h (outer.filterMap (·.frame))) (envA (ob50 w).1 50 h.objs.size :: outer) := by
    refine ⟨by show ScopeKind.function ≠ .module; decide, ?_, ?_⟩
    · obtain ⟨oL, es, ep, ho, hdd, _⟩ := fm₂.ns
      refine ⟨h.objs.size, oL, rfl, ?_, hx.keeps _ _ ho, fun vs q => by rw [hdd] at q; cases q⟩
      cases q : (hideAll h (outer.filterMap (·.frame))).get? h.objs.size with
      | none => rfl
      | some o => exact absurd (Heap.lt_size (of_hideAll _ q)) (Nat.lt_irrefl _)
    · exact (funFrames_hide hl fun env he a ha => List.mem_filterMap.mpr ⟨env, he, ha⟩).of_keeps fun b o e _ => ⟨o, hx.keeps b o (k₂ b o e), rfl⟩
  have ne : (hideAll h (outer.filterMap (·.frame))).get? e = none := by
    cases q : (hideAll h (outer.filterMap (·.frame))).get? e with
    | none => rfl
    | some o => have := k₂ _ _ (of_hideAll _ q); rw [hx.new] at this; cases this
  have hfr' : (A.deeper (envA (ob50 w).1 50 h.objs.size)).frames = some (envA (ob50 w).1 50 h.objs.size :: outer) := by show A.frames.map _ = _; rw [hfr]; rfl
  refine wpAny_leaving_firstW (a0 := a0) hfr' ff rfl he st ne hd rfl rfl fun h₄ q => ?_
  obtain ⟨q1, ⟨_, _, q2⟩, q3, q4⟩ := q
  rw [hcls] at q3
  exact kE h₄ _ e a0 ⟨q1, ne, q2, q3⟩ ((Heap.UpToSlots.of_keeps fun b o e => hx.keeps b o (k₂ b o e)).trans q4)
end
end
end Mine
namespace Mine
noncomputable section
section
variable {w : World} {A : Around} {E : Value → Shared → Prop} {h₀ h hb hr : Heap} {L : Addr} {m : Str → Option Value} {g : Array GenState} {dr : Drawn} {t : Nat} {os : OsState} {Q : Value → Shared → Prop} {env : Env}
/-- x[i] of an object -/
theorem o_sub {value slice : Expr} {x d : Addr} {f : Str → Option Value} {i : Value} (X : (KK w).In h) (hx : h.get? x = some (instObj 170 d)) (hn : h.Ns d f)
    (k : wpAny (MM w) A.in1 (call (.ref 50) [.ref x, i]) Q E ⟨h, g, dr, t, os⟩)
    (hsl : subscripted slice true (.ref x) i = runValue (.builtin "lifetime.subscript" ⟨[.ref x, i], []⟩) := by with_unfolding_all rfl) : wpAny (MM w) A (subscriptTail value slice (.ref x) i) Q E ⟨h, g, dr, t, os⟩ := by
  obtain ⟨od, I, _⟩ := inst_at hx hn
  have e50 := X _ _ (fn50 w).at_
  unfold subscriptTail getitemInPython
  refine wpAny_bind (wpAny_bind (wpAny_bind (I.type.here ((looks_findIn X (f_get w)).here ?_))))
  dsimp only
  refine wpAny_bind (wpAny_load e50 ?_)
  rw [(fn50 w).data]
  refine wpAny_pure ?_
  dsimp only
  rw [hsl]
  refine wpAny_bind (wpAny_runValue (codeAny_builtin entry_sub ?_))
  unfold Builtin.«lifetime.subscript»
  refine wpAny_bind (special_fn (s := ⟨h, g, dr, t, os⟩) X I (f_get w) (by kernel_rfl) (wpAny_mono k (fun v s' z => ?_) fun _ _ z => z))
  refine wpAny_pure ?_
  show wpAny (MM w) A (letTemporaryGo value (.ref x) v >>= fun _ => pure v) Q E s'
  exact wpAny_bind (wpAny_letTemporaryGo (wpAny_pure z))
end
end
end Mine
namespace Mine
noncomputable section
theorem sub_keke : isSubtype (.type "KeyError") (.type "KeyError") = pure true := by rw [isSubtype_type]; kernel_rfl
section
variable {w : World} {A : Around} {E : Value → Shared → Prop} {h₀ h hb hr : Heap} {L : Addr} {m : Str → Option Value} {g : Array GenState} {dr : Drawn} {t : Nat} {os : OsState} {env : Env} {p : Ptr} {D O : List (Int × Value)} {S Gs N : Int → Bool} {key : Int} {tk : Tok} {Q : Flow → Shared → Prop}
noncomputable abbrev tryS (p1 p2 p3 p4 p5 p6 p7 p8 p9 p10 pos : Pos) (k : Nat) : Stmt :=
  .Try [.Assign [.Name "got" p1] (.Subscript (.Name "held" p2) (.Name "wish" p3) p4) p5] [.ExceptHandler (some (.Name "KeyError" p6)) none [.Assign [.Name "got" p7] (.Constant (.str "unknown") k p8) p9] p10] [] [] pos
theorem try_val {p1 p2 p3 p4 p5 p6 p7 p8 p9 p10 pos : Pos} {kc : Nat} (G : Good0 w h₀) (fm : Fm h₀ L hb h m) (hroom : A.depth < recursionLimit) (X : AS w h₀ h p D O S Gs N) (hv : (valueAt D key).getD .none ≠ .none ∨ S (ab key) = true) (hp : ∃ u, (valueAt D key).getD .none = bv u)
    (e1 : m "held" = some (.ref p.x)) (e2 : m "wish" = some (.int key tk)) (hk : env.scope.kind = .function) (hL : env.locals = L) (l1 : env.kindOf "held" = some .local) (l2 : env.kindOf "wish" = some .local) (l3 : env.kindOf "got" = some .local)
    (kk : ∀ h' t', Fm h₀ L h' h' (fun y => if y = "got" then some ((valueAt D key).getD .none) else m y) → Chg [L] h h' → Q .next ⟨h', g, dr, t', os⟩) :
    wpAny (MM w) A (exec (tryS p1 p2 p3 p4 p5 p6 p7 p8 p9 p10 pos kc) env) Q E ⟨h, g, dr, t, os⟩ := by
  refine wpAny_Try_except (wpAny_execs_cons (wpAny_Assign_Name (Subscript_ (m_name fm e1 hk hL l1 (m_name fm e2 hk hL l2 (o_sub (G.X.keeps fm.base) X.inst X.att.ns (gi_val (A := A.in1) G fm.base hroom X hv hp fun h₁ t₁ k₁ => ?_)))))))
  have fm₁ := fm.keep k₁
  refine m_store fm₁.here hL l3 (fun h₂ t₂ fm₂ => ?_) (by rw [hk]; rfl)
  exact wpAny_execs_nil (wpAny_execs_nil (kk h₂ _ fm₂.here fun b o n e => fm₂.ext b o (by simpa using n) (k₁ b o e)))
theorem try_raise {p1 p2 p3 p4 p5 p6 p7 p8 p9 p10 pos : Pos} {kc : Nat} {outer : List Env} (G : Good0 w h₀) (fm : Fm h₀ L hb h m) (hroom : A.depth < recursionLimit) (hh : A.handled = none) (X : AS w h₀ h p D O S Gs N) (hv : valueAt D key = none) (hS : S (ab key) = false)
    (hfr : A.frames = some (env :: outer)) (hl : h.FunFrames {} (env :: outer)) (hf : env.frame = some L) (h0f : ∀ a ∈ (env :: outer).filterMap (·.frame), h₀.get? a = none)
    (e1 : m "held" = some (.ref p.x)) (e2 : m "wish" = some (.int key tk)) (hk : env.scope.kind = .function) (hL : env.locals = L) (l1 : env.kindOf "held" = some .local) (l2 : env.kindOf "wish" = some .local) (l3 : env.kindOf "got" = some .local)
    (hg : env.globals = mainGlobals) (hbn : env.builtins = builtinsNs) (l4 : env.kindOf "KeyError" = some .globalImplicit)
    (kk : ∀ h' t' u, Fm h₀ L h' h' (fun y => if y = "got" then some (.str "unknown" u) else m y) → Chg ((env :: outer).filterMap (·.frame)) h h' → (∀ b o, b ≠ L → h.get? b = some o → (∀ vs, o.data ≠ .fields vs) → ∃ sl, h'.get? b = some { o with slots := sl }) → Q .next ⟨h', g, dr, t', os⟩) :
    wpAny (MM w) A (exec (tryS p1 p2 p3 p4 p5 p6 p7 p8 p9 p10 pos kc) env) Q E ⟨h, g, dr, t, os⟩ := by
  refine wpAny_Try_except (wpAny_execs_cons (wpAny_Assign_Name (Subscript_ (m_name fm e1 hk hL l1 (m_name fm e2 hk hL l2 (o_sub (G.X.keeps fm.base) X.inst X.att.ns (gi_raise (A := A.in1) G fm.base hroom hh X hv hS hfr hl fun h₁ t₁ e a0 fl₁ sm₁ => ?_)))))))
  refine wpAny_looks_onW (s := ⟨h₁, g, dr, t₁, os⟩) hfr hf fl₁ fun h₂ he₂ sm₂ => ?_
  refine wpAny_landsW (s := ⟨h₂, g, dr, t₁, os⟩) he₂ fun h₃ fl₃ sm₃ => ?_
  replace sm₂ : h₁.UpToSlots h₂ := sm₂
  replace sm₃ : h₂.UpToSlots h₃ := sm₃
  have sm : h.UpToSlots h₃ := sm₁.trans (sm₂.trans sm₃)
  have kb : ∀ (h' : Heap), (hideAll h ((env :: outer).filterMap (·.frame))).StaysIn h' → Keep h₀ h' := fun h' st b o e => st b o (hideAll_get _ (fm.base b o e) fun q => by rw [h0f b q] at e; cases e)
  have fm₃ : Fm h₀ L h₃ h₃ m := ⟨sm.ns fm.ns, Heap.ExtBut.refl _ _, kb _ fl₃.1, fm.low⟩
  obtain ⟨ob, hob, hobc⟩ := fl₃.there
  refine wpAny_handleBy_builtin (X := "KeyError") (T := "KeyError") (b := true) kr_isExc_KeyError kr_notTuple_KeyError sub_keke (m_builtin G fm₃ bo_ke (b_ke w) hk hg hbn l4 ⟨rfl, ⟨ob, hob, hobc⟩, ?_⟩)
  rw [if_pos rfl]
  refine lands_againW (s := ⟨h₃, g, dr, t₁, os⟩) fl₃ fun h₄ fl₄ sm₄ => ?_
  replace sm₄ : h₃.UpToSlots h₄ := sm₄
  have fm₄ : Fm h₀ L h₄ h₄ m := ⟨(sm.trans sm₄).ns fm.ns, Heap.ExtBut.refl _ _, kb _ fl₄.1, fm.low⟩
  refine wpAny_execs_cons (wpAny_Assign_Name (wpAny_Constant_str ?_))
  refine m_store fm₄ hL l3 (fun h₅ t₅ fm₅ => ?_) (by rw [hk]; rfl)
  refine wpAny_execs_nil (kk h₅ _ _ fm₅.here (fun b o n e => ?_) fun b o n e hd => ?_)
  · have nL : b ≠ L := fun q => n (List.mem_filterMap.mpr ⟨env, by simp, by rw [hf, q]⟩)
    exact fm₅.ext b o nL (fl₄.1 b o (hideAll_get _ e n))
  · obtain ⟨sl, q⟩ := (sm.trans sm₄) b o e hd
    exact ⟨sl, fm₅.ext b _ n q⟩
end
end
end Mine
namespace Mine
noncomputable section
section
variable {w : World} {A : Around} {E : Value → Shared → Prop} {g : Array GenState} {dr : Drawn} {t : Nat} {os : OsState} {h : Heap} {env : Env}
theorem unpack_list {l : Addr} {items : Array Value} {Q : List Value → Shared → Prop} (hh : A.handled = none) (hl : h.IsList l items) (hQ : ∀ h', Keep h h' → Q items.toList ⟨h', g, dr, t, os⟩) : wpAny (MM w) A (unpackItems (.ref l) items.size none) Q E ⟨h, g, dr, t, os⟩ :=
  kun_itemsOf (s := ⟨h, g, dr, t, os⟩) hh hl fun h' x => hQ h' fun b o e => x b o (Nat.ne_of_lt (Heap.lt_size e)) e
/-- a, b, c, d = e with a list of four -/
theorem assign4 {e : Expr} {a b c d : Str} {pa pb pc pd pt pos : Pos} {k : Nat} {l : Addr} {va vb vc vd : Value} {Q : Flow → Shared → Prop} (hh : A.handled = none)
    (hv : wpAny (MM w) A (eval e env) (fun v s₁ => v = .ref l ∧ ∃ h₁ t₁ g₁, s₁ = ⟨h₁, g₁, dr, t₁, os⟩ ∧ h₁.IsList l #[va, vb, vc, vd] ∧ ∀ h₂, Keep h₁ h₂ → wpAny (MM w) A (storeName env a va) (fun _ s₂ => wpAny (MM w) A (storeName env b vb) (fun _ s₃ => wpAny (MM w) A (storeName env c vc) (fun _ s₄ => wpAny (MM w) A (storeName env d vd) (fun _ s₅ => Q .next s₅) E s₄) E s₃) E s₂) E ⟨h₂, g₁, dr, t₁, os⟩) E ⟨h, g, dr, t, os⟩)
    (hs : exec (.Assign [.Tuple [.Name a pa, .Name b pb, .Name c pc, .Name d pd] k pt] e pos) env = (do
      standAt pos
      let v ← eval e env
      assign (.Tuple [.Name a pa, .Name b pb, .Name c pc, .Name d pd] k pt) env v
      pure .next)) :
    wpAny (MM w) A (exec (.Assign [.Tuple [.Name a pa, .Name b pb, .Name c pc, .Name d pd] k pt] e pos) env) Q E ⟨h, g, dr, t, os⟩ := by
  rw [hs]
  refine wpAny_bind (wpAny_standAt (wpAny_bind (wpAny_mono hv (fun v s₁ q => ?_) fun _ _ z => z)))
  obtain ⟨rfl, h₁, t₁, g₁, rfl, hl, q⟩ := q
  rw [arm_assign_Tuple]
  refine wpAny_bind (wpAny_bind (wpAny_standAt ?_))
  unfold unpack
  show wpAny _ _ (holding [Value.ref l] (unpackItems (.ref l) 4 none) >>= _) _ _ _
  refine wpAny_bind (wpAny_holding (unpack_list (items := #[va, vb, vc, vd]) hh hl fun h₂ k₂ => ?_))
  show wpAny _ _ (do holding [vb, vc, vd] (assign (.Name a pa) env va); do holding [vc, vd] (assign (.Name b pb) env vb); do holding [vd] (assign (.Name c pc) env vc); do holding [] (assign (.Name d pd) env vd); pure ()) _ _ _
  refine wpAny_bind (wpAny_holding (wpAny_assign_Name (wpAny_mono (q h₂ k₂) (fun _ s₂ q => ?_) fun _ _ z => z)))
  refine wpAny_bind (wpAny_holding (wpAny_assign_Name (wpAny_mono q (fun _ s₃ q => ?_) fun _ _ z => z)))
  refine wpAny_bind (wpAny_holding (wpAny_assign_Name (wpAny_mono q (fun _ s₄ q => ?_) fun _ _ z => z)))
  refine wpAny_bind (wpAny_holding (wpAny_assign_Name (wpAny_mono q (fun _ s₅ q => ?_) fun _ _ z => z)))
  exact wpAny_pure (wpAny_pure q)
end
end
end Mine
namespace Mine
noncomputable section
theorem f_iter (w : World) : findIn (KK w) (.ref 170) "__iter__" = some (some (.ref 72)) := by kernel_rfl
theorem f_len (w : World) : findIn (KK w) (.ref 170) "__len__" = some (some (.ref 65)) := by kernel_rfl
section
variable {w : World} {A : Around} {E : Value → Shared → Prop} {env : Env} {g : Array GenState} {dr : Drawn} {os : OsState} {h : Heap} {t : Nat}
theorem lc_it {elt target iter : PySem.Expr} {ifs : List PySem.Expr} {scope : Scope} {cl : List (Str × Addr)} {pos : Pos} {a I : Addr} {vs : List Value} {J : Nat → List Value → Heap → Prop} {RR : Value → Addr → Result → Shared → Prop}
    (hh : A.handled = none) (hit : h.IsListIter I a 0) (haI : a ≠ I) (hl : h.IsList a vs.toArray) (hn : vs.length < 1000) (hcell : ∀ y ∈ scope.names, y.2 ≠ .cell) (hkind : scope.kind = .function) (hJ : TupStable J) (hJ0 : J 0 [] h)
    (step : ∀ C i v h' t' m ys, h.objs.size ≤ C → i < vs.length → vs[i]? = some v → ys.length ≤ i → h'.Ns C m → Chg [I] h h' → h'.IsListIter I a (i + 1) → J i ys h' → Round w A g dr os elt target ifs (compEnvC scope cl C env) C I v i ys J h' t')
    (fin : ∀ C D h' t' m ys, h.objs.size ≤ C → h.objs.size ≤ D → C ≠ D → ys.length ≤ vs.length → h'.Ns C m → h'.PlainList D ys.toArray → Chg [I] h h' → J vs.length ys h' → RR (.ref D) C (.ok .next) ⟨h', g, dr, t', os⟩) :
    wpAny (MM w) A (newList []) (fun acc s₃ => wpAny (MM w) A (newFunctionEnv scope env.globals cl [] env.qual none .none (some env)) (fun cenv s₄ =>
      codeAny (MM w) A (.compStart (.ListComp elt [⟨target, iter, ifs, 0⟩] scope pos) 0 (.ref I) acc { cenv with scope := relabel scope env }) (RR acc cenv.locals) s₄) E s₃) E ⟨h, g, dr, t, os⟩ := by
  have alt : a < h.objs.size := let ⟨_, ho, _⟩ := hl; Heap.lt_size ho
  have Ilt : I < h.objs.size := let ⟨_, ho, _⟩ := hit; Heap.lt_size ho
  let J' : Nat → List Value → Heap → Prop := fun i ys h' => ∀ h'' : Heap, (∀ b u v, b ≠ I → h'.get? b = some (tup2 u v) → h''.get? b = some (tup2 u v)) → J i ys h''
  have down : ∀ i ys h', J' i ys h' → J i ys h' := fun i ys h' q => q h' fun _ _ _ _ e => e
  have up' : ∀ i ys (h' : Heap), (∀ u v, h'.get? I ≠ some (tup2 u v)) → J i ys h' → J' i ys h' := fun i ys h' n q h'' ag => hJ i ys h' h'' q fun b u v e => ag b u v (by rintro rfl; exact n u v e) e
  refine p_comp (g := g) (dr := dr) (os := os) (J := J') (W := Walks.list hh I a haI vs.toArray) (by simpa using hn) ⟨hit, hl⟩ (fun b hb => ?_) hcell hkind (fun i ys h1 h2 j q h3 ag => j h3 fun b u v nb e => ag b u v nb (q b _ (by simpa using nb) rfl ⟨_, _, rfl⟩ e))
    (up' 0 [] h (fun u v e => by obtain ⟨_, ho, hc, _⟩ := hit; exact ne_cls e ho rfl hc (by decide) rfl) hJ0)
    (fun C i v h' t' m ys hC hi hv hy hns hst q j => ?_) (fun C D h' t' m ys hC hD hCD hy hns hpl q j => ?_)
  · simp only [List.mem_cons, List.not_mem_nil, or_false] at hb
    rcases hb with rfl | rfl
    · exact Ilt
    · exact alt
  · have IC : I ≠ C := Nat.ne_of_lt (Nat.lt_of_lt_of_le Ilt hC)
    have lift : ∀ (h₆ : Heap) ys', Heap.ExtBut C h' h₆ → J (i + 1) ys' h₆ → J' (i + 1) ys' h₆ := fun h₆ ys' x j => up' _ _ _ (fun u v e => by
      obtain ⟨_, ho, hc, _⟩ := hst.1
      exact ne_cls e (x _ _ IC ho) rfl hc (by decide) rfl) j
    refine wpAny_mono (step C i v h' t' m ys hC (by simpa using hi) (by simpa using hv) hy hns (fun b o n e => q b o n e) hst.1 (down _ _ _ j)) (fun _ s₃ q₃ => wpAny_mono q₃ (fun _ s₄ q₄ => wpAny_mono q₄ (fun ok s₅ q₅ => ?_) fun _ _ z => z) fun _ _ z => z) fun _ _ z => z
    cases ok with
    | false =>
      rw [if_neg (by decide)] at q₅ ⊢
      obtain ⟨h₅, m₅, t₅, e1, e2, e3, e4⟩ := q₅
      exact ⟨h₅, m₅, t₅, e1, e2, e3, lift _ _ e2 e4⟩
    | true =>
      rw [if_pos rfl] at q₅ ⊢
      refine wpAny_mono q₅ (fun y s₆ q₆ => ?_) fun _ _ z => z
      obtain ⟨h₅, m₅, t₅, e1, e2, e3, e4⟩ := q₆
      exact ⟨h₅, m₅, t₅, e1, e2, e3, lift _ _ e2 e4⟩
  · exact fin C D h' t' m ys hC hD hCD (by simpa using hy) hns hpl (fun b o n e => q b o n e) (by simpa using down _ _ _ j)
/-- iter(object) -/
theorem o_iter {x d : Addr} {f : Str → Option Value} {Q : Value → Shared → Prop} (X : (KK w).In h) (hx : h.get? x = some (instObj 170 d)) (hn : h.Ns d f)
    (k : wpAny (MM w) A (call (.ref 72) [.ref x]) (fun v s' => (∃ I l i, v = .ref I ∧ s'.heap.IsListIter I l i) ∧ Q v s') E ⟨h, g, dr, t, os⟩) : wpAny (MM w) A (pyIter (.ref x)) Q E ⟨h, g, dr, t, os⟩ := by
  obtain ⟨od, Ia, _⟩ := inst_at hx hn
  have bnd : ∀ {M : Model}, Looks M h (bindSpecial (.ref 72) (.ref x)) (.ref 72, [.ref x]) := bind_fn X _ (by kernel_rfl)
  have go : wpAny (MM w) A (call (.ref 72) [.ref x] >>= fun v => pure (some v)) (fun r s' => ∃ v, r = some v ∧ (∃ I l i, v = .ref I ∧ s'.heap.IsListIter I l i) ∧ Q v s') E ⟨h, g, dr, t, os⟩ :=
    wpAny_bind (wpAny_mono k (fun v s' q => wpAny_pure ⟨v, rfl, q⟩) fun _ _ z => z)
  have one : ∀ refuse : Sem Value, wpAny (MM w) A (callSpecialIfBoundUnlessNone? (.ref x) "__iter__" refuse) (fun r s' => ∃ v, r = some v ∧ (∃ I l i, v = .ref I ∧ s'.heap.IsListIter I l i) ∧ Q v s') E ⟨h, g, dr, t, os⟩ := by
    intro refuse
    simp only [callSpecialIfBoundUnlessNone?, bindSpecialIfBound?]
    refine wpAny_holding (wpAny_bind (wpAny_bind (wpAny_bind (Ia.type.here ((looks_findIn X (f_iter w)).here ?_)))))
    refine wpAny_bind (wpAny_askSetting (wpAny_ite ?_))
    have go2 : wpAny (MM w) A (if (Value.ref 72 == Value.none) = true then (refuse >>= fun v => pure (some v)) else (call (.ref 72) [.ref x] >>= fun v => pure (some v))) (fun r s' => ∃ v, r = some v ∧ (∃ I l i, v = .ref I ∧ s'.heap.IsListIter I l i) ∧ Q v s') E ⟨h, g, dr, t, os⟩ := by
      rw [if_neg (show ¬ ((Value.ref 72 == Value.none) = true) from Bool.false_ne_true)]
      exact go
    split
    · exact wpAny_bind (bnd.here (wpAny_pure (by exact go2)))
    · exact wpAny_tryCatch (wpAny_bind (bnd.here (wpAny_pure (by exact go2))))
  unfold pyIter
  refine wpAny_bind (wpAny_bind (Ia.type.here ((looks_findIn X (f_iter w)).here ?_)))
  show wpAny (MM w) A (callSpecialIfBoundUnlessNone? (.ref x) "__iter__" _ >>= _) Q E _
  refine wpAny_bind (wpAny_mono (one _) (fun r s' q => ?_) fun _ _ z => z)
  obtain ⟨v, rfl, ⟨I, l, i, rfl, hit⟩, q⟩ := q
  refine wpAny_bind (wpAny_specialOf hit.typeIs slot_listiter_next.lookup ?_)
  exact wpAny_pure q
end
end
end Mine
namespace Mine
noncomputable section
section
variable {w : World} {A : Around} {E : Value → Shared → Prop} {env : Env} {g : Array GenState} {dr : Drawn} {os : OsState} {h h₀ hb : Heap} {t : Nat} {L : Addr} {m : Str → Option Value}
/-- y = [elt for target in x if ...], x a local list -/
theorem lc_asg {elt target : PySem.Expr} {ifs : List PySem.Expr} {scope : Scope} {cl : List (Str × Addr)} {pos spos px py : Pos} {x y : Str} {a : Addr} {vs : List Value} {J : Nat → List Value → Heap → Prop} {Q : Flow → Shared → Prop}
    (fm : Fm h₀ L hb h m) (hh : A.handled = none) (hx : m x = some (.ref a)) (hl : h.IsList a vs.toArray) (hn : vs.length < 1000)
    (hsw : swapsWith (.ListComp elt [⟨target, .Name x px, ifs, 0⟩] scope pos) (some (.Name y py)) spos.line env = pure true) (hclos : closureFor scope env = pure cl) (hcell : ∀ y ∈ scope.names, y.2 ≠ .cell) (hkind : scope.kind = .function)
    (hnames : ∀ z ∈ scope.names, z.2 = .local → scope.names.lookup z.1 = some .local) (hk : env.scope.kind = .function) (hL : env.locals = L) (lx : env.kindOf x = some .local) (ly : env.kindOf y = some .local) (hJ : TupStable J) (hJ0 : J 0 [] h)
    (step : ∀ C I i v h' t' m ys, h.objs.size ≤ C → i < vs.length → vs[i]? = some v → ys.length ≤ i → h'.Ns C m → Keep h h' → h'.IsListIter I a (i + 1) → J i ys h' → Round w A g dr os elt target ifs (compEnvC scope cl C env) C I v i ys J h' t')
    (kk : ∀ h' t' D ys, Fm h₀ L h' h' (fun z => if z = y then some (.ref D) else m z) → Chg [L] h h' → h.get? D = none → h'.IsList D ys.toArray → J vs.length ys h' → Q .next ⟨h', g, dr, t', os⟩)
    (hdx : (x == ("__debug__" : Str)) = false := by decide) :
    wpAny (MM w) A (exec (.Assign [.Name y py] (.ListComp elt [⟨target, .Name x px, ifs, 0⟩] scope pos) spos) env) Q E ⟨h, g, dr, t, os⟩ := by
  have hLs : L < h.objs.size := fm.ns.lt
  rw [exec_Assign_Name_used _ _ _ _ hsw]
  refine wpAny_bind (wpAny_standAt (wpAny_bind ?_))
  show wpAny _ A (do let _ ← comprehension (.ListComp elt [⟨target, .Name x px, ifs, 0⟩] scope pos) scope env _ (newList []) false (eval (.Name x px) env) (some (assign (.Name y py) env))) _ _ _
  refine wpAny_bind (wpAny_mono (wpAny_comprehension_free (use := some (assign (.Name y py) env)) (Q := fun _ s' => Q .next s') rfl (fun _ => rfl) hclos hkind hnames ?_) (fun _ s' hq => wpAny_pure (wpAny_pure hq)) fun _ _ e => e)
  refine m_name fm hx hk hL lx ?_ hdx
  refine lc_list (RR := fun acc C => compPost (MM w) A E (some (assign (.Name y py) env)) (fun _ s' => Q .next s') acc C) (J := J) hh hl hn hcell hkind hJ hJ0 step ?_
  intro C D h' t' m' ys hC hD hCD hy hns hpl kp j
  have fm' : Fm h₀ L h' h' m := (fm.keep kp).here
  show wpAny _ A (assign (.Name y py) env (.ref D)) _ _ _
  refine wpAny_assign_Name (m_store fm' hL ly (fun h₂ t₂ fm₂ => ?_) (by rw [hk]; rfl))
  have CL : C ≠ L := Nat.ne_of_gt (Nat.lt_of_lt_of_le hLs hC)
  have DL : D ≠ L := Nat.ne_of_gt (Nat.lt_of_lt_of_le hLs hD)
  refine ⟨m', hns.at' fun o e => fm₂.ext _ o CL e, fun h₃ s₃ => ?_⟩
  replace s₃ : Heap.SameBut C h₂ h₃ := s₃
  obtain ⟨n, hD'⟩ := hpl
  have low : h₀.get? C = none := low_size fm.base hC
  have tup3 : ∀ b u v, h'.get? b = some (tup2 u v) → h₃.get? b = some (tup2 u v) := fun b u v e => (s₃.2 b (by
    rintro rfl
    obtain ⟨_, _, _, ho, hd, _⟩ := hns
    rw [ho] at e; cases e; cases hd)).trans (fm₂.ext b _ (by
    rintro rfl
    obtain ⟨_, _, _, ho, hd, _⟩ := fm'.ns
    rw [ho] at e; cases e; cases hd) e)
  refine kk h₃ _ D ys (fm₂.turn s₃ CL low) (fun b o nb e => ?_) (low_size (Keep.refl h) hD) ⟨_, (s₃.2 D (Ne.symm hCD)).trans (fm₂.ext _ _ DL hD'), rfl, _, rfl⟩ (hJ _ _ _ _ j tup3)
  have bL : b ≠ L := by simpa using nb
  exact (s₃.2 b (Nat.ne_of_lt (Nat.lt_of_lt_of_le (Heap.lt_size e) hC))).trans (fm₂.ext b o bL (kp b o e))
/-- d[k] of a dict -/
theorem d_item {value slice : Expr} {a : Addr} {kvs : List (Int × Value)} {k : Int} {tk : Tok} {v : Value} {Q : Value → Shared → Prop} (hd : h.DictOf (IK w) a kvs) (lo : (a == sysModules) = false) (hv : valueAt kvs k = some v) (kk : ∀ t', Q v ⟨h, g, dr, t', os⟩)
    (hs : subscripted slice false (.ref a) (.int k tk) = operate [.ref a, .int k tk] (getItem (.ref a) (.int k tk)) := by with_unfolding_all rfl) (ht : ∀ r, letTemporaryGo value (.ref a) r = pure () := by intro _; with_unfolding_all rfl) :
    wpAny (MM w) A (subscriptTail value slice (.ref a) (.int k tk)) Q E ⟨h, g, dr, t, os⟩ := by
  refine subscriptTail_builtin (s := ⟨h, g, dr, t, os⟩) hd.typeIs F.slot_dict_getitem.lookup ?_ hs ht
  exact wpAny_getItem_of (knd := IK w) (s := ⟨h, g, dr, t, os⟩) (intKind_is PR w k tk) hd.mapOf hv (kk _)
end
end
end Mine
namespace Mine
noncomputable section
/-- the dict told -/
structure Told (w : World) (h : Heap) (a : Addr) (T : List (Int × Value)) (tv : Int → Option (Option Bool)) : Prop where
  dict : h.DictOf (IK w) a T
  keys : ∀ x ∈ T, x.1 ∈ K3
  val : ∀ k, valueAt T k = (tv k).map bv
  sys : (a == sysModules) = false
theorem Told.at {w : World} {h h' : Heap} {a : Addr} {T : List (Int × Value)} {tv : Int → Option (Option Bool)} (x : Told w h a T tv) (k : ∀ o, h.get? a = some o → h'.get? a = some o) : Told w h' a T tv := ⟨DictOf_at x.dict k, x.keys, x.val, x.sys⟩
theorem va_some {T : List (Int × Value)} {k : Int} : (valueAt T k).isSome = (T.map (·.1)).contains k := by
  unfold valueAt
  rw [Option.isSome_map, Bool.eq_iff_iff, List.find?_isSome, List.contains_iff_mem, List.mem_map]
  simp only [decide_eq_true_eq]
theorem Told.kn {w : World} {h : Heap} {a : Addr} {T : List (Int × Value)} {tv : Int → Option (Option Bool)} (x : Told w h a T tv) : (K3.filter fun k => (T.map (·.1)).contains k) = kn tv := by
  refine List.filter_congr fun k _ => ?_
  rw [← va_some, x.val, Option.isSome_map]
/-- a list of the heap is none of the two -/
theorem list_ne {w : World} {h h₀ : Heap} {p : Ptr} {D O : List (Int × Value)} {S G N : Int → Bool} {l : Addr} {xs : Array Value} (hl : h.IsList l xs) (X : AS w h₀ h p D O S G N) (c : Cd h) : l ∉ [81, p.d] := by
  obtain ⟨o, ho, hc, n, hd⟩ := hl
  simp only [List.mem_cons, List.not_mem_nil, or_false, not_or]
  refine ⟨?_, ?_⟩
  · rintro rfl
    obtain ⟨o', ps, h1, h2⟩ := c.at81
    rw [h1] at ho; cases ho; rw [h2] at hd; cases hd
  · rintro rfl
    obtain ⟨_, _, _, h1, h2, _⟩ := X.att
    rw [h1] at ho; cases ho; rw [h2] at hd; cases hd
/-- the two may turn, tuples stand -/
theorem two_notup {w : World} {h h₀ : Heap} {p : Ptr} {D O : List (Int × Value)} {S G N : Int → Bool} (X : AS w h₀ h p D O S G N) (c : Cd h) : ∀ a ∈ [81, p.d], ∀ u v, h.get? a ≠ some (tup2 u v) := by
  intro a ha u v e
  simp only [List.mem_cons, List.not_mem_nil, or_false] at ha
  rcases ha with rfl | rfl
  · exact c.notup 81 (by simp) u v e
  · exact X.notup _ (by simp) u v e
noncomputable abbrev envR (w : World) (L : Addr) : Env := envC (ob186 w).1 186 L
section
variable {w : World} {A : Around} {E : Value → Shared → Prop} {h₀ h hb hr : Heap} {L : Addr} {m : Str → Option Value} {g : Array GenState} {dr : Drawn} {t : Nat} {os : OsState} {p : Ptr} {tv : Int → Option (Option Bool)} {bf : Int → Option Bool} {nf : Int → Bool} {td bd fa ra : Addr} {T B : List (Int × Value)} {Q : Value → Shared → Prop}
/-- storing to a cell -/
theorem m_storeC {x : Str} {v : Value} {c : Addr} {v₀ : Option Value} {env : Env} {Q : Unit → Shared → Prop} (fm : Fm h₀ L hb h m) (hc : h.IsCell c v₀) (cL : c ≠ L) (lc : h₀.get? c = none) (hk : env.scope.kind = .function) (hl : env.kindOf x = some .cell) (hlc : env.cells.lookup x = some c)
    (kk : ∀ h', Fm h₀ L h' h' m → h'.IsCell c (some v) → Heap.SameBut c h h' → Q () ⟨h', g, dr, t, os⟩) : wpAny (MM w) A (storeName env x v) Q E ⟨h, g, dr, t, os⟩ :=
  wpAny_storeName_cell (s := ⟨h, g, dr, t, os⟩) hk hl hlc hc fun h' c' s' => kk h' (fm.turn s' cL lc) c' s'
/-- the opening of _law_reads: names, known, pairs, given -/
theorem rd_open {vf : List Value} {R : Flow → Shared → Prop} {E' : Value → Shared → Prop} (G : Good0 w h₀) (hh : A.handled = none) (kr : Keep h₀ hr) (X : St w h₀ hr p tv bf nf) (hc : Cd hr) (hT : Told w hr td T tv) (hrow : hr.IsList ra #[.ref p.x, .ref td, .ref bd, .ref fa])
    (fm : Fm h₀ L hr h (bindL (envR w L).kindOf [("row", .ref ra)] fun _ => none)) (hL : hr.objs.size ≤ L) (kp : Keep hr h) (hcell : h.IsCell (L + 1) none)
    (kk : ∀ h' t' m' kl pl gl vk vp vg, Fm h₀ L h' h' m' → m' "held" = some (.ref p.x) → m' "before" = some (.ref bd) → m' "fresh" = some (.ref fa) → m' "known" = some (.ref kl) → m' "pairs" = some (.ref pl) → m' "given" = some (.ref gl) → h'.IsCell (L + 1) (some (.ref td)) → Keep hr h' →
      h'.IsList kl vk.toArray → IntsAre vk (kn tv) → h'.IsList pl vp.toArray → TupsAt h' vp (kn tv) (ovOf tv) → h'.IsList gl vg.toArray → IntsAre vg ((kn tv).filter fun k => (tv k).join.isSome) →
      wpAny (MM w) A (execs ((bdOf (fdOf (ob186 w).1)).drop 4) (envR w L)) R E' ⟨h', g, dr, t', os⟩) :
    wpAny (MM w) A (execs (bdOf (fdOf (ob186 w).1)) (envR w L)) R E' ⟨h, g, dr, t, os⟩ := by
  have lc : h₀.get? (L + 1) = none := low_size kr (Nat.le_trans hL (Nat.le_succ _))
  have cL : L + 1 ≠ L := Nat.succ_ne_self _
  refine wpAny_execs_cons (assign4 hh (n_loc fm (v := .ref ra) ⟨rfl, h, t, g, rfl, hrow.at fun o e => kp _ o e, fun h₂ k₂ => ?_⟩) rfl)
  have fm₂ := (fm.keep k₂).here
  refine m_store fm₂ rfl rfl fun h₃ t₃ fm₃ => ?_
  have c₃ : h₃.IsCell (L + 1) none := by obtain ⟨o, ho, hd⟩ := hcell; exact ⟨o, fm₃.ext _ _ cL (k₂ _ _ ho), hd⟩
  refine m_storeC (v := .ref td) fm₃.here c₃ cL lc rfl rfl rfl fun h₄ fm₄ c₄ s₄ => ?_
  refine m_store fm₄ rfl rfl fun h₅ t₅ fm₅ => ?_
  refine m_store fm₅.here rfl rfl fun h₆ t₆ fm₆ => ?_
  have c₆ : h₆.IsCell (L + 1) (some (.ref td)) := by obtain ⟨o, ho, hd⟩ := c₄; exact ⟨o, fm₆.ext _ _ cL (fm₅.ext _ _ cL ho), hd⟩
  have lt : ∀ b o, hr.get? b = some o → b ≠ L ∧ b ≠ L + 1 := fun b o e => ⟨Nat.ne_of_lt (Nat.lt_of_lt_of_le (Heap.lt_size e) hL), Nat.ne_of_lt (Nat.lt_succ_of_lt (Nat.lt_of_lt_of_le (Heap.lt_size e) hL))⟩
  have k₆ : Keep hr h₆ := fun b o e => fm₆.ext b o (lt b o e).1 (fm₅.ext b o (lt b o e).1 ((s₄.2 b (lt b o e).2).trans (fm₃.ext b o (lt b o e).1 (k₂ b o (kp b o e)))))
  have T₆ := hT.at fun o e => k₆ _ o e
  -- known
  refine wpAny_execs_cons (wpAny_Assign_Name (n_bf1 G fm₆.here boot_sorted (b_sorted w) (n_cell (c := L + 1) c₆ (sorted_dict hh T₆.dict T₆.sys T₆.keys fun h₇ t₇ kl vk nk lk ik k₇ => ?_))))
  rw [T₆.kn] at ik
  have fm₇ := (fm₆.keep k₇).here
  refine m_store fm₇ rfl rfl fun h₈ t₈ fm₈ => ?_
  have klL : kl ≠ L := by
    rintro rfl
    obtain ⟨_, _, _, ho, _⟩ := fm₆.ns
    rw [nk] at ho; cases ho
  have lk₈ : h₈.IsList kl vk.toArray := lk.at fun o e => fm₈.ext _ o klL e
  have c₈ : h₈.IsCell (L + 1) (some (.ref td)) := by obtain ⟨o, ho, hd⟩ := c₆; exact ⟨o, fm₈.ext _ _ cL (k₇ _ _ ho), hd⟩
  have k₈ : Keep hr h₈ := fun b o e => fm₈.ext b o (lt b o e).1 (k₇ b o (k₆ b o e))
  have vkl : vk.length = (kn tv).length := by
    have := ik.sizeZ
    simp only [List.size_toArray] at this
    omega
  have k3 := kn_len tv
  have kval : ∀ k ∈ kn tv, valueAt T k = some (ovOf tv k) := fun k hk => by
    have := (List.mem_filter.mp hk).2
    rw [hT.val]
    obtain ⟨o, ho⟩ := Option.isSome_iff_exists.mp this
    show (tv k).map bv = some (bv (tv k).join)
    rw [ho]; rfl
  -- pairs
  refine wpAny_execs_cons (lc_asg (cl := [("told", L + 1)]) (J := fun i ys h => TupsAt h ys ((kn tv).take i) (ovOf tv)) fm₈.here hh rfl lk₈ (by omega) (by rfl) (by rfl) (by decide) (by rfl) (by decide) rfl rfl rfl rfl (fun _ _ _ _ j q => j.at q) ⟨rfl, fun i v k e => by simp at e⟩ ?_ ?_)
  · intro C I i v h' t' m' ys hC hi hv hy hns kp' hit j
    obtain ⟨k, tk, rfl, hkk⟩ := ik.at i v hv
    have hmem : k ∈ kn tv := List.mem_of_getElem? hkk
    refine rd_name rfl rfl rfl hns fun h₄ t₄ s₄ n₄ => tests0 ?_
    rw [if_pos rfl]
    have lt4 : ∀ b o, h₈.get? b = some o → h₄.get? b = some o := fun b o e => (s₄.2 b (Nat.ne_of_lt (Nat.lt_of_lt_of_le (Heap.lt_size e) hC))).trans (kp' b o e)
    have ce₄ : h₄.IsCell (L + 1) (some (.ref td)) := by obtain ⟨o, ho, hd⟩ := c₈; exact ⟨o, lt4 _ _ ho, hd⟩
    have T₄ := hT.at fun o e => lt4 _ o (k₈ _ o e)
    refine wpAny_Tuple (args_cons (wpAny_Name (wpAny_loadName_local rfl rfl n₄ rfl (args_cons (Subscript_ (n_cell (s := ⟨h₄, g, dr, t₄, os⟩) (c := L + 1) ce₄ (wpAny_Name (wpAny_loadName_local rfl rfl n₄ rfl (d_item (k := k) (tk := tk) T₄.dict T₄.sys (kval k hmem) fun t₅ => args_nil ⟨by rw [sizeLine_eq]; show 2 ≤ _; decide, ?_⟩)) (by decide)))) rfl)) (by decide)) rfl)
    have up : ∀ b o, h₄.get? b = some o → (h₄.push (tup2 (.int k tk) (ovOf tv k))).get? b = some o := fun b o e => Heap.get?_push_of_some _ e
    refine ⟨_, _, rfl, up, ?_⟩
    rw [take_succ' hkk]
    have j4 : TupsAt (h₄.push (tup2 (.int k tk) (ovOf tv k))) ys ((kn tv).take i) (ovOf tv) := j.at fun b u v e => up b _ ((s₄.2 b (by
      rintro rfl
      obtain ⟨_, _, _, ho, hd, _⟩ := hns
      rw [ho] at e; cases e; cases hd)).trans e)
    refine ⟨by rw [List.length_append, List.length_append, j4.1]; rfl, fun i' v' k' e1 e2 => ?_⟩
    rcases Nat.lt_trichotomy i' ys.length with q | q | q
    · exact j4.2 i' v' k' (by rwa [List.getElem?_append_left q] at e1) (by rwa [List.getElem?_append_left (j4.1 ▸ q)] at e2)
    · rw [q, List.getElem?_append_right (Nat.le_refl _), Nat.sub_self] at e1
      rw [q, j4.1, List.getElem?_append_right (Nat.le_refl _), Nat.sub_self] at e2
      cases e1; cases e2
      exact ⟨_, tk, rfl, Heap.get?_push_size _ rfl⟩
    · rw [List.getElem?_eq_none (by rw [List.length_append, List.length_singleton]; omega)] at e1; cases e1
  intro h₉ t₉ pl vp fm₉ ch₉ npl lp₉ j₉
  rw [vkl, List.take_length] at j₉
  have k₉ : Keep hr h₉ := fun b o e => ch₉ b o (by rw [List.mem_singleton]; exact (lt b o e).1) (k₈ b o e)
  have lk₉ : h₉.IsList kl vk.toArray := lk₈.at fun o e => ch₉ _ o (by rw [List.mem_singleton]; exact klL) e
  have c₉ : h₉.IsCell (L + 1) (some (.ref td)) := by obtain ⟨o, ho, hd⟩ := c₈; exact ⟨o, ch₉ _ _ (by rw [List.mem_singleton]; exact cL) ho, hd⟩
  have plL : pl ≠ L := by
    rintro rfl
    obtain ⟨_, _, _, ho, _⟩ := fm₈.ns
    rw [npl] at ho; cases ho
  -- given
  refine wpAny_execs_cons (lc_asg (cl := [("told", L + 1)]) (J := fun i ys _ => IntsAre ys (((kn tv).take i).filter fun k => (tv k).join.isSome)) fm₉ hh rfl lk₉ (by omega) (by rfl) (by rfl) (by decide) (by rfl) (by decide) rfl rfl rfl rfl (fun _ _ _ _ j q => j) .nil ?_ ?_)
  · intro C I i v h' t' m' ys hC hi hv hy hns kp' hit j
    obtain ⟨k, tk, rfl, hkk⟩ := ik.at i v hv
    have hmem : k ∈ kn tv := List.mem_of_getElem? hkk
    refine rd_name rfl rfl rfl hns fun h₄ t₄ s₄ n₄ => ?_
    have lt4 : ∀ b o, h₉.get? b = some o → h₄.get? b = some o := fun b o e => (s₄.2 b (Nat.ne_of_lt (Nat.lt_of_lt_of_le (Heap.lt_size e) hC))).trans (kp' b o e)
    have ce₄ : h₄.IsCell (L + 1) (some (.ref td)) := by obtain ⟨o, ho, hd⟩ := c₉; exact ⟨o, lt4 _ _ ho, hd⟩
    have T₄ := hT.at fun o e => lt4 _ o (k₉ _ o e)
    refine tests1 (wpAny_isTrue_Compare1 (Subscript_ (n_cell (s := ⟨h₄, g, dr, t₄, os⟩) (c := L + 1) ce₄ (wpAny_Name (wpAny_loadName_local rfl rfl n₄ rfl (d_item (k := k) (tk := tk) T₄.dict T₄.sys (kval k hmem) fun t₅ => Constant_none (wpAny_isNot_plain (bv_plain _ none) (wpAny_truthy_bool ?_)))) (by decide)))))
    have e1 : (!(ovOf tv k == Value.none)) = (tv k).join.isSome := by
      show (!(bv (tv k).join == bv none)) = _
      rw [bv_beq]
      cases (tv k).join <;> rfl
    rw [e1, take_succ' hkk, List.filter_append]
    cases q : (tv k).join.isSome with
    | false =>
      rw [if_neg (by decide)]
      refine ⟨h₄, _, rfl, Keep.refl _, ?_⟩
      rw [List.filter_cons_of_neg (by rw [q]; decide), List.filter_nil, List.append_nil]
      exact j
    | true =>
      rw [if_pos rfl]
      refine wpAny_Name (wpAny_loadName_local rfl rfl n₄ rfl ⟨h₄, _, rfl, Keep.refl _, ?_⟩) (by decide)
      rw [List.filter_cons_of_pos (by rw [q]), List.filter_nil]
      exact j.append (ints1 k tk)
  intro h₁₀ t₁₀ gl vg fm₁₀ ch₁₀ ngl lg₁₀ j₁₀
  rw [vkl, List.take_length] at j₁₀
  exact kk h₁₀ t₁₀ _ kl pl gl vk vp vg fm₁₀ rfl rfl rfl rfl rfl rfl (by obtain ⟨o, ho, hd⟩ := c₉; exact ⟨o, ch₁₀ _ _ (by rw [List.mem_singleton]; exact cL) ho, hd⟩) (fun b o e => ch₁₀ b o (by rw [List.mem_singleton]; exact (lt b o e).1) (k₉ b o e))
    (lk₉.at fun o e => ch₁₀ _ o (by rw [List.mem_singleton]; exact klL) e) ik (lp₉.at fun o e => ch₁₀ _ o (by rw [List.mem_singleton]; exact plL) e) (j₉.at fun b u v e => ch₁₀ b _ (by
      rw [List.mem_singleton]
      rintro rfl
      obtain ⟨_, _, _, ho, hd, _⟩ := fm₉.ns
      rw [ho] at e; cases e; cases hd) e) lg₁₀ j₁₀
end
end
end Mine
namespace Mine
noncomputable section
noncomputable def bd' : Option Bool → PyData
  | none => .none
  | some b => .bool b
section
variable {w : World} {A : Around} {E : Value → Shared → Prop} {h₀ h h' hb hr : Heap} {L : Addr} {m : Str → Option Value} {g : Array GenState} {dr : Drawn} {t : Nat} {os : OsState} {p p' : Ptr} {tv : Int → Option (Option Bool)} {bf : Int → Option Bool} {nf : Int → Bool} {td bd fa ra : Addr} {T B : List (Int × Value)} {Q : Value → Shared → Prop} {env : Env} {kl pl gl : Addr} {vk vp vg : List Value}
/-- where _law_reads stands between its checks -/
structure Md (w : World) (h₀ hr h : Heap) (L : Addr) (p : Ptr) (tv : Int → Option (Option Bool)) (bf : Int → Option Bool) (nf : Int → Bool) (td bd fa kl pl gl : Addr) (vk vp vg : List Value) (m : Str → Option Value) : Prop where
  fm : Fm h₀ L h h m
  held : m "held" = some (.ref p.x)
  before : m "before" = some (.ref bd)
  fresh : m "fresh" = some (.ref fa)
  known : m "known" = some (.ref kl)
  pairs : m "pairs" = some (.ref pl)
  given : m "given" = some (.ref gl)
  cell : h.IsCell (L + 1) (some (.ref td))
  st : St w h₀ h p tv bf nf
  cd : Cd h
  chg : Chg [81, p.d] hr h
  lk : h.IsList kl vk.toArray
  ik : IntsAre vk (kn tv)
  lp : h.IsList pl vp.toArray
  jp : TupsAt h vp (kn tv) (ovOf tv)
  lg : h.IsList gl vg.toArray
  ig : IntsAre vg ((kn tv).filter fun k => (tv k).join.isSome)
  hL : hr.objs.size ≤ L
  pd : p.d < hr.objs.size
  big : 203 < hr.objs.size
  n81 : h₀.get? 81 = none
theorem Md.go (M : Md w h₀ hr h L p tv bf nf td bd fa kl pl gl vk vp vg m) (c : Chg [81, p.d] h h') (st' : St w h₀ h' p' tv bf nf) (ex : p'.x = p.x) (ed : p'.d = p.d) (cd' : Cd h') : Md w h₀ hr h' L p' tv bf nf td bd fa kl pl gl vk vp vg m := by
  obtain ⟨D, Ol, S, G, N, X, _, _⟩ := id M.st
  have nL : L ∉ [81, p.d] := by
    simp only [List.mem_cons, List.not_mem_nil, or_false, not_or]
    exact ⟨Nat.ne_of_gt (Nat.lt_of_lt_of_le (Nat.lt_trans (by decide) M.big) M.hL), Nat.ne_of_gt (Nat.lt_of_lt_of_le M.pd M.hL)⟩
  have nC : L + 1 ∉ [81, p.d] := by
    simp only [List.mem_cons, List.not_mem_nil, or_false, not_or]
    exact ⟨Nat.ne_of_gt (Nat.lt_succ_of_lt (Nat.lt_of_lt_of_le (Nat.lt_trans (by decide) M.big) M.hL)), Nat.ne_of_gt (Nat.lt_succ_of_lt (Nat.lt_of_lt_of_le M.pd M.hL))⟩
  have low : ∀ a ∈ [81, p.d], h₀.get? a = none := fun a ha => by
    simp only [List.mem_cons, List.not_mem_nil, or_false] at ha
    rcases ha with rfl | rfl
    · exact M.n81
    · exact X.low _ (by simp)
  have nk := list_ne M.lk X M.cd
  have np := list_ne M.lp X M.cd
  have ng := list_ne M.lg X M.cd
  refine ⟨M.fm.chg c nL low, by rw [ex]; exact M.held, M.before, M.fresh, M.known, M.pairs, M.given, ?_, st', cd', ?_, M.lk.at fun o e => c _ o nk e, M.ik, M.lp.at fun o e => c _ o np e, M.jp.at fun b u v e => c b _ (fun q => two_notup X M.cd b q u v e) e, M.lg.at fun o e => c _ o ng e, M.ig, M.hL, by rw [ed]; exact M.pd, M.big, M.n81⟩
  · obtain ⟨o, ho, hd⟩ := M.cell
    exact ⟨o, c _ _ nC ho, hd⟩
  · rw [ed]
    exact M.chg.trans c
theorem Md.keep (M : Md w h₀ hr h L p tv bf nf td bd fa kl pl gl vk vp vg m) (k : Keep h h') : Md w h₀ hr h' L p tv bf nf td bd fa kl pl gl vk vp vg m := M.go (Chg.of_keep k) (M.st.keep k) rfl rfl (M.cd.keep k)
theorem Md.c81 (M : Md w h₀ hr h L p tv bf nf td bd fa kl pl gl vk vp vg m) (c : Chg [81] h h') (cd' : Cd h') : Md w h₀ hr h' L p tv bf nf td bd fa kl pl gl vk vp vg m :=
  M.go (c.mono fun a ha => by rw [List.mem_singleton] at ha; simp [ha]) (M.st.c81 M.cd c) rfl rfl cd'
/-- two rows of the same ints -/
theorem ne_ints {a b : Addr} {va vb : List Value} {ns : List Int} (la : h.IsList a va.toArray) (ia : IntsAre va ns) (lb : h.IsList b vb.toArray) (ib : IntsAre vb ns) (hu : A.units + 10 < cLine) (k : Q (.bool false) ⟨h, g, dr, t, os⟩) :
    wpAny (MM w) A (compareOp .NotEq (.ref a) (.ref b)) Q E ⟨h, g, dr, t, os⟩ := by
  have hc : PyData.canLay0 (.list (ns.map PyData.int)) = true := by simp only [PyData.canLay0]; exact canLayAll0_ints ns
  refine SeqAt.compareNe_reads (s := ⟨h, g, dr, t, os⟩) (reads_of_ints la ia) (reads_of_ints lb ib) hc hc ?_ ?_
  · have := W.depthAll_ints ns
    simp only [PyData.depth]
    omega
  · rw [SeqAt.eqv_refl _ hc]; exact k
/-- len(object) -/
theorem o_len {x d : Addr} {f : Str → Option Value} {n : Nat} (X : (KK w).In h) (hx : h.get? x = some (instObj 170 d)) (hn : h.Ns d f) (hz : n < 1000)
    (k : wpAny (MM w) A.in1 (call (.ref 65) [.ref x]) (fun v s' => (∃ u, v = .int n u) ∧ ∀ u t', Q (.int n u) { s' with toks := t' }) E ⟨h, g, dr, t, os⟩) : wpAny (MM w) A (call (.builtin "len") [.ref x]) Q E ⟨h, g, dr, t, os⟩ := by
  obtain ⟨od, I, _⟩ := inst_at hx hn
  refine Calls.call_function_entry kind_len plain_len entry_len (args_len1 _) ?_
  unfold Builtin.«len»
  refine wpAny_bind (m := oneArg "len" _) (wpAny_pure ?_)
  refine wpAny_bind (m := callSpecial? (.ref x) (Str.ofString "__len__")) (special_fn (s := ⟨h, g, dr, t, os⟩) X I (f_len w) (by kernel_rfl) (wpAny_mono k (fun r s' hr => ?_) fun _ _ y => y))
  obtain ⟨⟨u, rfl⟩, q⟩ := hr
  refine wpAny_bind (wpAny_holding (wpAny_pure ?_))
  refine wpAny_bind (wpAny_letGo ?_)
  show wpAny _ _ (if (n : Int) < 0 then _ else _) _ _ _
  rw [if_neg (by omega)]
  show wpAny _ _ (if (n : Int) ≥ 2 ^ 63 then _ else _) _ _ _
  rw [if_neg (by omega)]
  exact wpAny_bind (wpAny_mkInt (wpAny_pure ⟨_, rfl, q _ _⟩))
end
end
end Mine
namespace Mine
noncomputable section
section
variable {w : World} {A : Around} {E : Value → Shared → Prop} {h₀ h h' hb hr : Heap} {L : Addr} {m : Str → Option Value} {g : Array GenState} {dr : Drawn} {t : Nat} {os : OsState} {p p' : Ptr} {tv : Int → Option (Option Bool)} {bf : Int → Option Bool} {nf : Int → Bool} {td bd fa ra : Addr} {T B : List (Int × Value)} {env : Env} {kl pl gl : Addr} {vk vp vg : List Value} {R : Flow → Shared → Prop}
theorem kn_perm (tv : Int → Option (Option Bool)) : (kn tv).Nodup := List.Pairwise.filter _ (by decide)
/-- the checks of the keys -/
theorem rd_keys (G : Good0 w h₀) (hh : A.handled = none) (hroom : A.depth + 7 < recursionLimit) (hu : A.units + 40 < cLine) (M : Md w h₀ hr h L p tv bf nf td bd fa kl pl gl vk vp vg m)
    (kk : ∀ h' t' g', (AllBare g → AllBare g') → Md w h₀ hr h' L p tv bf nf td bd fa kl pl gl vk vp vg m → wpAny (MM w) A (execs ((bdOf (fdOf (ob186 w).1)).drop 5) (envR w L)) R E ⟨h', g', dr, t', os⟩) :
    wpAny (MM w) A (execs ((bdOf (fdOf (ob186 w).1)).drop 4) (envR w L)) R E ⟨h, g, dr, t, os⟩ := by
  have vkl : vk.length = (kn tv).length := by
    have := M.ik.sizeZ
    simp only [List.size_toArray] at this
    omega
  have k3 := kn_len tv
  refine wpAny_execs_cons (wpAny_If (isTrue_or (wpAny_isTrue_Compare1 ?_)))
  rw [eval_ListComp]
  refine wpAny_comprehension_free (use := none) (cl := []) rfl (fun _ => rfl) rfl rfl (by decide) ?_
  obtain ⟨D, Ol, S, Gs, N, X, r, _⟩ := id M.st
  refine n_loc M.fm (v := .ref p.x) ?_ M.held
  refine o_iter (G.X.keeps M.fm.base) X.inst X.att.ns (iter_ok G M.fm.base M.n81 (by omega) hh M.st M.cd fun h₁ t₁ g₁ I l vs ab₁ hl hI lI ll hit iv c₁ cd₁ => ⟨⟨I, l, 0, rfl, hit⟩, ?_⟩)
  have M₁ := M.c81 c₁ cd₁
  have vsl : vs.length = (kn tv).length := by
    have := iv.sizeZ
    simp only [List.size_toArray] at this
    omega
  refine lc_it (J := fun i ys _ => IntsAre ys ((kn tv).take i)) (vs := vs) hh hit lI ll (by omega) (by decide) (by rfl) (fun _ _ _ _ j _ => j) .nil ?_ ?_
  · intro C i v h' t' m' ys hC hi hv hy hns kp hit' j
    obtain ⟨k, tk, rfl, hkk⟩ := iv.at i v hv
    refine rd_name rfl rfl rfl hns fun h₄ t₄ s₄ n₄ => tests0 ?_
    rw [if_pos rfl]
    refine wpAny_Name (wpAny_loadName_local rfl rfl n₄ rfl ⟨h₄, _, rfl, Keep.refl _, ?_⟩) (by decide)
    rw [take_succ' hkk]
    exact j.append (ints1 k tk)
  intro C D₁ h₂ t₂ m₂ ys hC hD hCD hy hns hpl ch j
  rw [vsl, List.take_length] at j
  refine ⟨m₂, hns, fun h₃ s₃ => ?_⟩
  replace s₃ : Heap.SameBut C h₂ h₃ := s₃
  have hsz : hr.objs.size ≤ h.objs.size := Nat.le_trans M.hL (Nat.le_of_lt M.fm.ns.lt)
  have c₃ : Chg [81] h h₃ := fun b o n e => by
    have e1 := c₁ b o n e
    exact (s₃.2 b (Nat.ne_of_lt (Nat.lt_of_lt_of_le (Heap.lt_size e1) hC))).trans (ch b o (by rw [List.mem_singleton]; exact Nat.ne_of_lt (Nat.lt_of_lt_of_le (Heap.lt_size e) hI)) e1)
  have cI : Chg [I, C] h₁ h₃ := fun b o n e => by
    simp only [List.mem_cons, List.not_mem_nil, or_false, not_or] at n
    exact (s₃.2 b n.2).trans (ch b o (by simpa using n.1) e)
  have lowI : ∀ n : Nat, n ≤ 203 → n ∉ [I, C] := fun n hn e => by
    have q1 : 203 < I := Nat.lt_of_lt_of_le (Nat.lt_of_lt_of_le M.big hsz) hI
    have q2 : 203 < C := Nat.lt_of_lt_of_le (Nat.lt_of_lt_of_le (Nat.lt_of_lt_of_le M.big hsz) hI) (Nat.le_trans (Nat.le_of_lt (let ⟨_, ho, _⟩ := hit; Heap.lt_size ho)) hC)
    simp only [List.mem_cons, List.not_mem_nil, or_false] at e
    rcases e with e | e
    · exact absurd q1 (by rw [← e]; omega)
    · exact absurd q2 (by rw [← e]; omega)
  have M₃ := M.c81 c₃ (cd₁.chg cI (lowI 81 (by decide)) (lowI 85 (by decide)))
  obtain ⟨nD, hD'⟩ := hpl
  refine n_loc M₃.fm (v := .ref kl) ?_ M₃.known
  refine ne_ints ⟨_, (s₃.2 D₁ (Ne.symm hCD)).trans hD', rfl, _, rfl⟩ j M₃.lk M₃.ik (by omega) (wpAny_truthy_bool ?_)
  rw [if_neg (by decide)]
  -- held.keys() != known
  obtain ⟨D₃, Ol₃, S₃, Gs₃, N₃, X₃, r₃, _⟩ := id M₃.st
  refine isTrue_or (wpAny_isTrue_Compare1 (n_um0 G M₃.fm X₃ (f_keys w) (fn98 w) (keys_ok G M₃.fm.base M.n81 (by omega) hh M₃.st M₃.cd fun h₄ t₄ g₄ l₄ vs₄ ab₄ hl₄ ll₄ iv₄ c₄ cd₄ => ?_) rfl (by kernel_rfl) M₃.held))
  have M₄ := M₃.c81 c₄ cd₄
  refine n_loc M₄.fm (v := .ref kl) ?_ M₄.known
  refine ne_ints ll₄ iv₄ M₄.lk M₄.ik (by omega) (wpAny_truthy_bool ?_)
  rw [if_neg (by decide)]
  -- len(held) != len(known)
  obtain ⟨D₄, Ol₄, S₄, Gs₄, N₄, X₄, r₄, _⟩ := id M₄.st
  have e4 : (elts S₄).length = (kn tv).length := by rw [r₄.s]
  refine isTrue_or (wpAny_isTrue_Compare1 (n_bf1 G M₄.fm boot_len (b_len w) (n_loc M₄.fm (v := .ref p.x) (o_len (n := (kn tv).length) (G.X.keeps M₄.fm.base) X₄.inst X₄.att.ns (by omega) (len_ok (A := A.in1) G M₄.fm.base (by show A.depth < _; omega) X₄ fun h₅ t₅ tk₅ k₅ => ⟨⟨tk₅, by rw [e4]⟩, fun u t₆ => ?_⟩)) M₄.held)))
  have M₅ := M₄.keep k₅
  refine n_bf1 G M₅.fm boot_len (b_len w) (n_loc M₅.fm (v := .ref kl) (call_len_list M₅.lk (by simp; omega) (ne_int (wpAny_truthy_bool ?_))) M₅.known)
  have e5 : (((kn tv).length : Int) != (vk.toArray.size : Int)) = false := by rw [List.size_toArray, vkl]; exact bne_self_eq_false _
  rw [e5, if_neg (by decide)]
  refine isTrue_or_nil ?_
  rw [if_neg (by decide)]
  exact wpAny_execs_nil (kk h₅ _ g₄ (fun q => ab₄ (ab₁ q)) M₅)
end
end
end Mine
open PySem PySem.W PySem.Calls PyProof.Rows PyProof.V
namespace Mine
noncomputable section
theorem flat_bv (o : Option Bool) : Flat (bv o) (bd' o) := by
  cases o with
  | none => exact Flat.none
  | some b => exact Flat.bool b
section
variable {w : World} {A : Around} {E : Value → Shared → Prop} {h₀ h h' hb hr : Heap} {L : Addr} {m : Str → Option Value} {g : Array GenState} {dr : Drawn} {t : Nat} {os : OsState} {p p' : Ptr} {tv : Int → Option (Option Bool)} {bf : Int → Option Bool} {nf : Int → Bool} {td bd fa ra : Addr} {T B : List (Int × Value)} {env : Env} {kl pl gl : Addr} {vk vp vg : List Value} {R : Flow → Shared → Prop} {Q : Value → Shared → Prop}
noncomputable abbrev tupD (tv : Int → Option (Option Bool)) (ks : List Int) : List PyData := ks.map fun k => .tuple [.int k, bd' (tv k).join]
theorem tupD_lay (tv : Int → Option (Option Bool)) : ∀ ks, PyData.canLayAll0 (tupD tv ks) = true ∧ PyData.depthAll (tupD tv ks) ≤ 1
  | [] => ⟨rfl, Nat.zero_le _⟩
  | k :: ks => by
    obtain ⟨a, b⟩ := tupD_lay tv ks
    have c : PyData.canLay0 (.tuple [.int k, bd' (tv k).join]) = true ∧ PyData.depth (.tuple [.int k, bd' (tv k).join]) = 1 := by
      cases (tv k).join <;> exact ⟨rfl, rfl⟩
    refine ⟨?_, ?_⟩
    · show (PyData.canLay0 _ && PyData.canLayAll0 (tupD tv ks)) = true
      rw [c.1, a]; rfl
    · show max (PyData.depth _) (PyData.depthAll (tupD tv ks)) ≤ 1
      rw [c.2]; omega
theorem reads_tups : ∀ {ks : List Int} {vs : List Value}, TupsAt h vs ks (ovOf tv) → ∃ as, ReadsAll h vs (tupD tv ks) as
  | [], [], _ => ⟨_, .nil⟩
  | [], _ :: _, x => nomatch x.1
  | _ :: _, [], x => nomatch x.1
  | k :: ks, v :: vs, x => by
    obtain ⟨as, r⟩ := reads_tups (ks := ks) (vs := vs) ⟨Nat.succ.inj x.1, fun i v k a b => x.2 (i + 1) v k a b⟩
    obtain ⟨T, t, rfl, ho⟩ := x.2 0 v k rfl rfl
    have fb : Reads h (ovOf tv k) (bd' (tv k).join) [] := flat_bv _ h
    exact ⟨_, .cons (.tuple ho rfl rfl (.cons (.int k t) (.cons fb .nil))) r⟩
/-- two rows of the same pairs -/
theorem ne_tups {a b : Addr} {va vb : List Value} {ns : List Int} (la : h.IsList a va.toArray) (ia : TupsAt h va ns (ovOf tv)) (lb : h.IsList b vb.toArray) (ib : TupsAt h vb ns (ovOf tv)) (hu : A.units + 10 < cLine) (k : Q (.bool false) ⟨h, g, dr, t, os⟩) :
    wpAny (MM w) A (compareOp .NotEq (.ref a) (.ref b)) Q E ⟨h, g, dr, t, os⟩ := by
  obtain ⟨c1, c2⟩ := tupD_lay tv ns
  have hc : PyData.canLay0 (.list (tupD tv ns)) = true := c1
  obtain ⟨as, ra⟩ := reads_tups ia
  obtain ⟨bs, rb⟩ := reads_tups ib
  obtain ⟨oa, ha, ca, na, da⟩ := la
  obtain ⟨ob, hb, cb, nb, db⟩ := lb
  refine SeqAt.compareNe_reads (s := ⟨h, g, dr, t, os⟩) (.list ha ca da ra) (.list hb cb db rb) hc hc ?_ ?_
  · have : PyData.depth (.list (tupD tv ns)) ≤ 2 := Nat.succ_le_succ c2
    omega
  · rw [SeqAt.eqv_refl _ hc]; exact k
theorem reads_bvs (f : Int → Option Bool) : ∀ ks : List Int, ∃ as, ReadsAll h (ks.map fun k => bv (f k)) (ks.map fun k => bd' (f k)) as
  | [] => ⟨_, .nil⟩
  | k :: ks => let ⟨_, r⟩ := reads_bvs f ks; ⟨_, .cons (flat_bv (f k) h) r⟩
theorem bvs_lay (f : Int → Option Bool) : ∀ ks : List Int, PyData.canLayAll0 (ks.map fun k => bd' (f k)) = true ∧ PyData.depthAll (ks.map fun k => bd' (f k)) ≤ 0
  | [] => ⟨rfl, Nat.zero_le _⟩
  | k :: ks => by
    obtain ⟨a, b⟩ := bvs_lay f ks
    have c : PyData.canLay0 (bd' (f k)) = true ∧ PyData.depth (bd' (f k)) = 0 := by cases f k <;> exact ⟨rfl, rfl⟩
    refine ⟨?_, ?_⟩
    · show (PyData.canLay0 _ && PyData.canLayAll0 (ks.map fun k => bd' (f k))) = true
      rw [c.1, a]; rfl
    · show max (PyData.depth _) (PyData.depthAll (ks.map fun k => bd' (f k))) ≤ 0
      rw [c.2]; omega
theorem ne_bvl {a b : Addr} {f : Int → Option Bool} {ns : List Int} (la : h.IsList a (ns.map fun k => bv (f k)).toArray) (lb : h.IsList b (ns.map fun k => bv (f k)).toArray) (hu : A.units + 10 < cLine) (k : Q (.bool false) ⟨h, g, dr, t, os⟩) :
    wpAny (MM w) A (compareOp .NotEq (.ref a) (.ref b)) Q E ⟨h, g, dr, t, os⟩ := by
  obtain ⟨c1, c2⟩ := bvs_lay f ns
  have hc : PyData.canLay0 (.list (ns.map fun k => bd' (f k))) = true := c1
  obtain ⟨as, ra⟩ := reads_bvs (h := h) f ns
  obtain ⟨oa, ha, ca, na, da⟩ := la
  obtain ⟨ob, hb, cb, nb, db⟩ := lb
  refine SeqAt.compareNe_reads (s := ⟨h, g, dr, t, os⟩) (.list ha ca da ra) (.list hb cb db ra) hc hc ?_ ?_
  · have : PyData.depth (.list (ns.map fun k => bd' (f k))) ≤ 1 := Nat.succ_le_succ c2
    omega
  · rw [SeqAt.eqv_refl _ hc]; exact k
theorem va_mapi (f : Int → Value) (ks : List Int) (k : Int) : valueAt (ks.map fun k => (k, f k)) k = if k ∈ ks then some (f k) else none := by
  unfold valueAt
  induction ks with
  | nil => rfl
  | cons a ks ih =>
    simp only [List.map_cons, List.find?_cons]
    by_cases q : a = k
    · subst q; simp
    · rw [decide_eq_false q]
      simp only [ih, List.mem_cons, (Ne.symm q : k ≠ a), false_or]
/-- the length of a dict with keys among the three -/
theorem Told.len (x : Told w h td T tv) : T.length = (Mine.kn tv).length := by
  have nd : (T.map (·.1)).Nodup := let ⟨_, _, hd⟩ := Heap.dictOf_iff.mp x.dict; keysNodup_of_isDictOf hd
  have e := x.kn
  rw [← e, ← List.length_map (f := (·.1)) (as := T)]
  refine (List.Perm.length_eq ?_)
  refine (List.perm_ext_iff_of_nodup nd (List.Pairwise.filter _ (by decide))).mpr fun k => ?_
  rw [List.mem_filter, List.contains_iff_mem]
  refine ⟨fun q => ⟨?_, q⟩, fun q => q.2⟩
  obtain ⟨y, hy, rfl⟩ := List.mem_map.mp q
  exact x.keys y hy
theorem bd_refl (o : Option Bool) : PyData.eqv (bd' o) (bd' o) = true := by cases o with
  | none => rfl
  | some b => cases b <;> rfl
theorem hits_told {s : Shared} (hT : ∀ k ∈ kn tv, valueAt T k = some (ovOf tv k)) : ∀ ks : List Int, (∀ k ∈ ks, k ∈ kn tv) → KeqHits A s T (ks.map fun k => (k, ovOf tv k)) true
  | [], _ => .nil
  | k :: ks, q => by
    have z := KeqHits.hit (A := A) (s := s) (hT k (q k (List.mem_cons_self ..))) (keq_flat (flat_bv (tv k).join) (flat_bv (tv k).join)) (hits_told hT ks fun k' m => q k' (List.mem_cons_of_mem _ m))
    rw [bd_refl] at z
    exact z
theorem Told.kval (hT : Told w h td T tv) : ∀ k ∈ Mine.kn tv, valueAt T k = some (ovOf tv k) := fun k hk => by
  have := (List.mem_filter.mp hk).2
  rw [hT.val]
  obtain ⟨o, ho⟩ := Option.isSome_iff_exists.mp this
  show (tv k).map bv = some (bv (tv k).join)
  rw [ho]; rfl
theorem ne_told {d : Addr} (hd : h.DictOf (IK w) d ((kn tv).map fun k => (k, ovOf tv k))) (ds : (d == sysModules) = false) (hT : Told w h td T tv) (hu : A.units < cLine) (k : Q (.bool false) ⟨h, g, dr, t, os⟩) :
    wpAny (MM w) A (compareOp .NotEq (.ref d) (.ref td)) Q E ⟨h, g, dr, t, os⟩ := by
  refine keq_ne (s := ⟨h, g, dr, t, os⟩) (r := true) ds hT.sys hd hT.dict hu (fun _ => hits_told hT.kval _ fun _ q => q) ?_
  rw [List.length_map, hT.len, beq_self_eq_true]
  exact k
/-- the state after a comprehension over an iterator -/
theorem Md.comp {h₁ h₂ h₃ : Heap} {I C : Addr} (M : Md w h₀ hr h L p tv bf nf td bd fa kl pl gl vk vp vg m) (c₁ : Chg [81] h h₁) (cd₁ : Cd h₁) (hI : h.objs.size ≤ I) (lI : I < h₁.objs.size) (hC : h₁.objs.size ≤ C) (ch : Chg [I] h₁ h₂) (s₃ : Heap.SameBut C h₂ h₃) :
    Md w h₀ hr h₃ L p tv bf nf td bd fa kl pl gl vk vp vg m := by
  have hsz : hr.objs.size ≤ h.objs.size := Nat.le_trans M.hL (Nat.le_of_lt M.fm.ns.lt)
  have c₃ : Chg [81] h h₃ := fun b o n e => by
    have e1 := c₁ b o n e
    exact (s₃.2 b (Nat.ne_of_lt (Nat.lt_of_lt_of_le (Heap.lt_size e1) hC))).trans (ch b o (by rw [List.mem_singleton]; exact Nat.ne_of_lt (Nat.lt_of_lt_of_le (Heap.lt_size e) hI)) e1)
  have cI : Chg [I, C] h₁ h₃ := fun b o n e => by
    simp only [List.mem_cons, List.not_mem_nil, or_false, not_or] at n
    exact (s₃.2 b n.2).trans (ch b o (by simpa using n.1) e)
  have lowI : ∀ n : Nat, n ≤ 203 → n ∉ [I, C] := fun n hn e => by
    have q1 : 203 < I := Nat.lt_of_lt_of_le (Nat.lt_of_lt_of_le M.big hsz) hI
    have q2 : 203 < C := Nat.lt_of_lt_of_le (Nat.lt_of_lt_of_le (Nat.lt_of_lt_of_le M.big hsz) hI) (Nat.le_trans (Nat.le_of_lt lI) hC)
    simp only [List.mem_cons, List.not_mem_nil, or_false] at e
    rcases e with e | e
    · exact Nat.lt_irrefl 203 (Nat.lt_of_lt_of_le (show 203 < n by rw [e]; exact q1) hn)
    · exact Nat.lt_irrefl 203 (Nat.lt_of_lt_of_le (show 203 < n by rw [e]; exact q2) hn)
  exact M.c81 c₃ (cd₁.chg cI (lowI 81 (by decide)) (lowI 85 (by decide)))
theorem f_iteritems (w : World) : findIn (KK w) (.ref 170) "iteritems" = some (some (.ref 93)) := by kernel_rfl
theorem f_todict (w : World) : findIn (KK w) (.ref 170) "to_dict" = some (some (.ref 136)) := by kernel_rfl
theorem f_values (w : World) : findIn (KK w) (.ref 170) "values" = some (some (.ref 103)) := by kernel_rfl
/-- the checks of the pairs -/
theorem rd_pairs (G : Good0 w h₀) (hh : A.handled = none) (hroom : A.depth + 7 < recursionLimit) (hu : A.units + 40 < cLine) (M : Md w h₀ hr h L p tv bf nf td bd fa kl pl gl vk vp vg m) (hT : Told w hr td T tv) (tn : td ∉ [81, p.d])
    (kk : ∀ h' t' g', (AllBare g → AllBare g') → Md w h₀ hr h' L p tv bf nf td bd fa kl pl gl vk vp vg m → wpAny (MM w) A (execs ((bdOf (fdOf (ob186 w).1)).drop 6) (envR w L)) R E ⟨h', g', dr, t', os⟩) :
    wpAny (MM w) A (execs ((bdOf (fdOf (ob186 w).1)).drop 5) (envR w L)) R E ⟨h, g, dr, t, os⟩ := by
  have k3 := kn_len tv
  obtain ⟨D, Ol, S, Gs, N, X, r, _⟩ := id M.st
  refine wpAny_execs_cons (wpAny_If (isTrue_or (wpAny_isTrue_Compare1 (n_um0 G M.fm X (f_items w) (fn86 w) (st_items G M.fm.base M.n81 (by omega) hh M.st M.cd fun h₁ t₁ g₁ l₁ vs₁ c₁' ab₁ hl₁ ho₁ x₁ c₁ cd₁ => ?_) rfl (by kernel_rfl) M.held))))
  have M₁ := M.c81 c₁ cd₁
  refine n_loc M₁.fm (v := .ref pl) ?_ M₁.pairs
  refine ne_tups (tv := tv) ⟨_, ho₁, rfl, _, rfl⟩ x₁ M₁.lp M₁.jp (by omega) (wpAny_truthy_bool ?_)
  rw [if_neg (by decide)]
  refine isTrue_or (wpAny_isTrue_Compare1 ?_)
  rw [eval_ListComp]
  refine wpAny_comprehension_free (use := none) (cl := []) rfl (fun _ => rfl) rfl rfl (by decide) ?_
  obtain ⟨D₁, Ol₁, S₁, Gs₁, N₁, X₁, r₁, _⟩ := id M₁.st
  refine n_um0 G M₁.fm X₁ (f_iteritems w) (fn93 w) (iteritems_ok G M₁.fm.base M.n81 (by omega) hh M₁.st M₁.cd fun h₂ t₂ g₂ I l₂ vs₂ c₂' ab₂ hl₂ hI lI ho₂ hit x₂ c₂ cd₂ => ?_) rfl (by kernel_rfl) M₁.held
  refine wpAny_pyIter_listiter (s := ⟨h₂, g₂, dr, t₂, os⟩) hit ?_
  have vsl : vs₂.length = (kn tv).length := x₂.1
  refine lc_it (J := fun i ys h => TupsAt h ys ((kn tv).take i) (ovOf tv) ∧ TupsAt h vs₂ (kn tv) (ovOf tv)) (vs := vs₂) hh hit lI ⟨_, ho₂, rfl, _, rfl⟩ (by omega) (by decide) (by rfl) (fun _ _ _ _ j q => ⟨j.1.at q, j.2.at q⟩) ⟨⟨rfl, fun i v k e => by simp at e⟩, x₂⟩ ?_ ?_
  · intro C i v h' t' m' ys hC hi hv hy hns kp hit' j
    have hik : i < (kn tv).length := by omega
    have hkk : (kn tv)[i]? = some (kn tv)[i] := List.getElem?_eq_getElem hik
    refine rd_name rfl rfl rfl hns fun h₄ t₄ s₄ n₄ => tests0 ?_
    rw [if_pos rfl]
    have up : ∀ b u v, h'.get? b = some (tup2 u v) → h₄.get? b = some (tup2 u v) := fun b u v e => (s₄.2 b (by
      rintro rfl
      obtain ⟨_, _, _, ho, hd, _⟩ := hns
      rw [ho] at e; cases e; cases hd)).trans e
    refine wpAny_Name (wpAny_loadName_local rfl rfl n₄ rfl ⟨h₄, _, rfl, Keep.refl _, ?_, j.2.at up⟩) (by decide)
    rw [take_succ' hkk]
    have j4 := j.1.at up
    have x4 := j.2.at up
    refine ⟨by rw [List.length_append, List.length_append, j4.1]; rfl, fun i' v' k' e1 e2 => ?_⟩
    have yl : ys.length = i := by rw [j4.1, List.length_take]; omega
    rcases Nat.lt_trichotomy i' ys.length with q | q | q
    · exact j4.2 i' v' k' (by rwa [List.getElem?_append_left q] at e1) (by rwa [List.getElem?_append_left (j4.1 ▸ q)] at e2)
    · rw [q, List.getElem?_append_right (Nat.le_refl _), Nat.sub_self] at e1
      rw [q, j4.1, List.getElem?_append_right (Nat.le_refl _), Nat.sub_self] at e2
      cases e1; cases e2
      exact x4.2 i _ _ hv hkk
    · rw [List.getElem?_eq_none (by rw [List.length_append, List.length_singleton]; omega)] at e1; cases e1
  intro C D₁ h₃ t₃ m₃ ys hC hD hCD hy hns hpl ch j
  rw [vsl, List.take_length] at j
  refine ⟨m₃, hns, fun h₄ s₄ => ?_⟩
  replace s₄ : Heap.SameBut C h₃ h₄ := s₄
  have M₄ := M₁.comp c₂ cd₂ hI (let ⟨_, ho, _⟩ := hit; Heap.lt_size ho) hC ch s₄
  obtain ⟨nD, hD'⟩ := hpl
  refine n_loc M₄.fm (v := .ref pl) ?_ M₄.pairs
  have j4 := j.1.at (h' := h₄) fun b u v e => (s₄.2 b (by
      rintro rfl
      obtain ⟨_, _, _, ho, hd, _⟩ := hns
      rw [ho] at e; cases e; cases hd)).trans e
  refine ne_tups (tv := tv) ⟨_, (s₄.2 D₁ (Ne.symm hCD)).trans hD', rfl, _, rfl⟩ j4 M₄.lp M₄.jp (by omega) (wpAny_truthy_bool ?_)
  rw [if_neg (by decide)]
  -- held.to_dict() != told
  obtain ⟨D₄, Ol₄, S₄, Gs₄, N₄, X₄, r₄, _⟩ := id M₄.st
  refine isTrue_or (wpAny_isTrue_Compare1 (n_um0 G M₄.fm X₄ (f_todict w) (fn136 w) (todict_ok G M₄.fm.base M.n81 (by omega) hh M₄.st M₄.cd fun h₅ t₅ g₅ d₅ ab₅ hd₅ do₅ c₅ cd₅ => ?_) rfl (by kernel_rfl) M₄.held))
  have M₅ := M₄.c81 c₅ cd₅
  have hsz : 203 < h₄.objs.size := Nat.lt_of_lt_of_le M₄.big (Nat.le_trans M₄.hL (Nat.le_of_lt M₄.fm.ns.lt))
  refine n_cell (c := L + 1) M₅.cell (ne_told (tv := tv) do₅ ?_ (hT.at fun o e => M₅.chg _ o tn e) (by omega) (wpAny_truthy_bool ?_))
  · refine beq_false_of_ne (Nat.ne_of_gt (Nat.lt_of_lt_of_le ?_ hd₅))
    exact Nat.lt_trans (by decide) hsz
  rw [if_neg (by decide)]
  refine isTrue_or_nil ?_
  rw [if_neg (by decide)]
  exact wpAny_execs_nil (kk h₅ _ g₅ (fun q => ab₅ (ab₂ (ab₁ q))) M₅)
end
end
end Mine
namespace Mine
noncomputable section
section
variable {w : World} {A : Around} {E : Value → Shared → Prop} {env : Env} {g : Array GenState} {dr : Drawn} {os : OsState} {h h₀ hb : Heap} {t : Nat} {L : Addr} {m : Str → Option Value}
/-- [elt for target in x if ...], x a local list -/
theorem lc_ev {elt target : PySem.Expr} {ifs : List PySem.Expr} {scope : Scope} {cl : List (Str × Addr)} {pos px : Pos} {x : Str} {a : Addr} {vs : List Value} {J : Nat → List Value → Heap → Prop} {Q : Value → Shared → Prop}
    (fm : Fm h₀ L hb h m) (hh : A.handled = none) (hx : m x = some (.ref a)) (hl : h.IsList a vs.toArray) (hn : vs.length < 1000)
    (hclos : closureFor scope env = pure cl) (hcell : ∀ y ∈ scope.names, y.2 ≠ .cell) (hkind : scope.kind = .function)
    (hnames : ∀ z ∈ scope.names, z.2 = .local → scope.names.lookup z.1 = some .local) (hk : env.scope.kind = .function) (hL : env.locals = L) (lx : env.kindOf x = some .local) (hJ : TupStable J) (hJ0 : J 0 [] h)
    (step : ∀ C I i v h' t' m ys, h.objs.size ≤ C → i < vs.length → vs[i]? = some v → ys.length ≤ i → h'.Ns C m → Keep h h' → h'.IsListIter I a (i + 1) → J i ys h' → Round w A g dr os elt target ifs (compEnvC scope cl C env) C I v i ys J h' t')
    (kk : ∀ h' t' D ys, Keep h h' → h.get? D = none → h'.IsList D ys.toArray → J vs.length ys h' → Q (.ref D) ⟨h', g, dr, t', os⟩)
    (hdx : (x == ("__debug__" : Str)) = false := by decide) :
    wpAny (MM w) A (eval (.ListComp elt [⟨target, .Name x px, ifs, 0⟩] scope pos) env) Q E ⟨h, g, dr, t, os⟩ := by
  rw [eval_ListComp]
  refine wpAny_comprehension_free (use := none) (cl := cl) rfl (fun _ => rfl) hclos hkind hnames ?_
  refine m_name fm hx hk hL lx ?_ hdx
  refine lc_list (J := J) hh hl hn hcell hkind hJ hJ0 step ?_
  intro C D h' t' m' ys hC hD hCD hy hns hpl kp j
  refine ⟨m', hns, fun h₃ s₃ => ?_⟩
  replace s₃ : Heap.SameBut C h' h₃ := s₃
  obtain ⟨n, hD'⟩ := hpl
  have tup3 : ∀ b u v, h'.get? b = some (tup2 u v) → h₃.get? b = some (tup2 u v) := fun b u v e => (s₃.2 b (by
    rintro rfl
    obtain ⟨_, _, _, ho, hd, _⟩ := hns
    rw [ho] at e; cases e; cases hd)).trans e
  exact kk h₃ _ D ys (fun b o e => (s₃.2 b (Nat.ne_of_lt (Nat.lt_of_lt_of_le (Heap.lt_size e) hC))).trans (kp b o e)) (low_size (Keep.refl h) hD) ⟨_, (s₃.2 D (Ne.symm hCD)).trans hD', rfl, _, rfl⟩ (hJ _ _ _ _ j tup3)
end
section
variable {w : World} {A : Around} {E : Value → Shared → Prop} {h₀ h h' hb hr : Heap} {L : Addr} {m : Str → Option Value} {g : Array GenState} {dr : Drawn} {t : Nat} {os : OsState} {p p' : Ptr} {tv : Int → Option (Option Bool)} {bf : Int → Option Bool} {nf : Int → Bool} {td bd fa ra : Addr} {T B : List (Int × Value)} {env : Env} {kl pl gl : Addr} {vk vp vg : List Value} {R : Flow → Shared → Prop} {Q : Value → Shared → Prop}
theorem Md.vkl (M : Md w h₀ hr h L p tv bf nf td bd fa kl pl gl vk vp vg m) : vk.length = (kn tv).length := by
  have := M.ik.sizeZ
  simp only [List.size_toArray] at this
  omega
theorem Md.lts (M : Md w h₀ hr h L p tv bf nf td bd fa kl pl gl vk vp vg m) {b : Addr} {o : Obj} (e : hr.get? b = some o) : b < h.objs.size := Nat.lt_of_lt_of_le (Heap.lt_size e) (Nat.le_trans M.hL (Nat.le_of_lt M.fm.ns.lt))
/-- the check of the values -/
theorem rd_vals (G : Good0 w h₀) (hh : A.handled = none) (hroom : A.depth + 7 < recursionLimit) (hu : A.units + 40 < cLine) (M : Md w h₀ hr h L p tv bf nf td bd fa kl pl gl vk vp vg m) (hT : Told w hr td T tv) (tn : td ∉ [81, p.d])
    (kk : ∀ h' t' g', (AllBare g → AllBare g') → Md w h₀ hr h' L p tv bf nf td bd fa kl pl gl vk vp vg m → wpAny (MM w) A (execs ((bdOf (fdOf (ob186 w).1)).drop 7) (envR w L)) R E ⟨h', g', dr, t', os⟩) :
    wpAny (MM w) A (execs ((bdOf (fdOf (ob186 w).1)).drop 6) (envR w L)) R E ⟨h, g, dr, t, os⟩ := by
  have k3 := kn_len tv
  have vkl := M.vkl
  obtain ⟨D, Ol, S, Gs, N, X, r, _⟩ := id M.st
  refine wpAny_execs_cons (wpAny_If (wpAny_isTrue_Compare1 (n_um0 G M.fm X (f_values w) (fn103 w) (values_ok G M.fm.base M.n81 (by omega) hh M.st M.cd fun h₁ t₁ g₁ l₁ ab₁ hl₁ ll₁ c₁ cd₁ => ?_) rfl (by kernel_rfl) M.held)))
  have M₁ := M.c81 c₁ cd₁
  refine lc_ev (cl := [("told", L + 1)]) (J := fun i ys _ => ys = ((kn tv).take i).map (ovOf tv)) M₁.fm hh M₁.known M₁.lk (by omega) (by rfl) (by decide) (by rfl) (by decide) rfl rfl rfl (fun _ _ _ _ j q => j) rfl ?_ ?_
  · intro C I i v h' t' m' ys hC hi hv hy hns kp' hit j
    obtain ⟨k, tk, rfl, hkk⟩ := M.ik.at i v hv
    have hmem : k ∈ kn tv := List.mem_of_getElem? hkk
    refine rd_name rfl rfl rfl hns fun h₄ t₄ s₄ n₄ => tests0 ?_
    rw [if_pos rfl]
    have lt4 : ∀ b o, h₁.get? b = some o → h₄.get? b = some o := fun b o e => (s₄.2 b (Nat.ne_of_lt (Nat.lt_of_lt_of_le (Heap.lt_size e) hC))).trans (kp' b o e)
    have ce₄ : h₄.IsCell (L + 1) (some (.ref td)) := by obtain ⟨o, ho, hd⟩ := M₁.cell; exact ⟨o, lt4 _ _ ho, hd⟩
    have T₄ := hT.at fun o e => lt4 _ o (M₁.chg _ o tn e)
    refine Subscript_ (n_cell (s := ⟨h₄, g₁, dr, t₄, os⟩) (c := L + 1) ce₄ (wpAny_Name (wpAny_loadName_local rfl rfl n₄ rfl (d_item (k := k) (tk := tk) T₄.dict T₄.sys (T₄.kval k hmem) fun t₅ => ⟨h₄, _, rfl, Keep.refl _, ?_⟩)) (by decide)))
    rw [take_succ' hkk, List.map_append, j]; rfl
  intro h₂ t₂ D₂ ys k₂ nD lD j
  rw [vkl, List.take_length] at j
  subst j
  have M₂ := M₁.keep k₂
  refine ne_bvl (f := fun k => (tv k).join) (ns := kn tv) (ll₁.at fun o e => k₂ _ o e) lD (by omega) (wpAny_truthy_bool ?_)
  rw [if_neg (by decide)]
  exact wpAny_execs_nil (kk h₂ _ g₁ ab₁ M₂)
theorem kn_asg (tv : Int → Option (Option Bool)) : ((kn tv).filter fun k => (tv k).join.isSome) = K3.filter fun k => (tv k).join.isSome := by
  rw [List.filter_filter]
  refine List.filter_congr fun k _ => ?_
  cases h : tv k with
  | none => rfl
  | some o => cases o <;> rfl
theorem kn_una (tv : Int → Option (Option Bool)) : ((kn tv).filter fun k => !(tv k).join.isSome) = K3.filter fun k => (tv k).isSome && !(tv k).join.isSome := by
  rw [List.filter_filter]
  exact List.filter_congr fun k _ => Bool.and_comm _ _
/-- the checks of the assigned ones -/
theorem rd_asg (G : Good0 w h₀) (hh : A.handled = none) (hroom : A.depth + 7 < recursionLimit) (hu : A.units + 40 < cLine) (M : Md w h₀ hr h L p tv bf nf td bd fa kl pl gl vk vp vg m)
    (kk : ∀ h' t', Md w h₀ hr h' L p tv bf nf td bd fa kl pl gl vk vp vg m → wpAny (MM w) A (execs ((bdOf (fdOf (ob186 w).1)).drop 8) (envR w L)) R E ⟨h', g, dr, t', os⟩) :
    wpAny (MM w) A (execs ((bdOf (fdOf (ob186 w).1)).drop 7) (envR w L)) R E ⟨h, g, dr, t, os⟩ := by
  have k3 := kn_len tv
  have ig := M.ig
  rw [kn_asg] at ig
  have vgl : vg.length = (K3.filter fun k => (tv k).join.isSome).length := by
    have := ig.sizeZ
    simp only [List.size_toArray] at this
    omega
  have k3' : (K3.filter fun k => (tv k).join.isSome).length ≤ 3 := List.length_filter_le _ _
  obtain ⟨D, Ol, S, Gs, N, X, r, _⟩ := id M.st
  have e1 : elts Gs = K3.filter fun k => (tv k).join.isSome := by rw [r.g]
  refine wpAny_execs_cons (wpAny_If (isTrue_or (wpAny_isTrue_Compare1 (Attribute_name (m_name M.fm M.held rfl rfl rfl (num_ok G M.fm.base (by omega) X fun h₁ t₁ tk₁ k₁ => ?_))))))
  rw [e1]
  have M₁ := M.keep k₁
  refine n_bf1 G M₁.fm boot_len (b_len w) (n_loc M₁.fm (v := .ref gl) (call_len_list M₁.lg (by simp; omega) (ne_int (wpAny_truthy_bool ?_))) M₁.given)
  have e5 : (((K3.filter fun k => (tv k).join.isSome).length : Int) != (vg.toArray.size : Int)) = false := by rw [List.size_toArray, vgl]; exact bne_self_eq_false _
  rw [e5, if_neg (by decide)]
  have X₁ := X.keep k₁
  refine isTrue_or (wpAny_isTrue_Compare1 (n_bf1 G M₁.fm boot_sorted (b_sorted w) (Attribute_name (m_name M₁.fm M₁.held rfl rfl rfl (asg_ok G M₁.fm.base (by omega) X₁ fun h₂ t₂ k₂ S₂ => sorted_set hh S₂ fun h₃ t₃ l₃ vs₃ n₃ ll₃ iv₃ k₃ => ?_)))))
  have M₃ := (M₁.keep k₂).keep k₃
  refine n_loc M₃.fm (v := .ref gl) ?_ M₃.given
  rw [e1] at iv₃
  refine ne_ints ll₃ iv₃ M₃.lg ig (by omega) (wpAny_truthy_bool ?_)
  rw [if_neg (by decide)]
  refine isTrue_or_nil ?_
  rw [if_neg (by decide)]
  exact wpAny_execs_nil (kk h₃ _ M₃)
/-- the check of the unassigned ones -/
theorem rd_una (G : Good0 w h₀) (hh : A.handled = none) (hroom : A.depth + 7 < recursionLimit) (hu : A.units + 40 < cLine) (M : Md w h₀ hr h L p tv bf nf td bd fa kl pl gl vk vp vg m) (hT : Told w hr td T tv) (tn : td ∉ [81, p.d])
    (kk : ∀ h' t', Md w h₀ hr h' L p tv bf nf td bd fa kl pl gl vk vp vg m → wpAny (MM w) A (execs ((bdOf (fdOf (ob186 w).1)).drop 9) (envR w L)) R E ⟨h', g, dr, t', os⟩) :
    wpAny (MM w) A (execs ((bdOf (fdOf (ob186 w).1)).drop 8) (envR w L)) R E ⟨h, g, dr, t, os⟩ := by
  have k3 := kn_len tv
  have vkl := M.vkl
  obtain ⟨D, Ol, S, Gs, N, X, r, _⟩ := id M.st
  have e1 : elts (fun j => S j && !Gs j) = (kn tv).filter fun k => !(tv k).join.isSome := by rw [r.g, r.s, kn_una]
  refine wpAny_execs_cons (wpAny_If (wpAny_isTrue_Compare1 (n_bf1 G M.fm boot_sorted (b_sorted w) (Attribute_name (m_name M.fm M.held rfl rfl rfl (una_ok G M.fm.base (by omega) X fun h₁ t₁ a₁ k₁ ha₁ S₁ => sorted_set hh S₁ fun h₂ t₂ l₂ vs₂ n₂ ll₂ iv₂ k₂ => ?_))))))
  rw [e1] at iv₂
  have M₂ := (M.keep k₁).keep k₂
  refine lc_ev (cl := [("told", L + 1)]) (J := fun i ys _ => IntsAre ys (((kn tv).take i).filter fun k => !(tv k).join.isSome)) M₂.fm hh M₂.known M₂.lk (by omega) (by rfl) (by decide) (by rfl) (by decide) rfl rfl rfl (fun _ _ _ _ j q => j) .nil ?_ ?_
  · intro C I i v h' t' m' ys hC hi hv hy hns kp' hit j
    obtain ⟨k, tk, rfl, hkk⟩ := M.ik.at i v hv
    have hmem : k ∈ kn tv := List.mem_of_getElem? hkk
    refine rd_name rfl rfl rfl hns fun h₄ t₄ s₄ n₄ => ?_
    have lt4 : ∀ b o, h₂.get? b = some o → h₄.get? b = some o := fun b o e => (s₄.2 b (Nat.ne_of_lt (Nat.lt_of_lt_of_le (Heap.lt_size e) hC))).trans (kp' b o e)
    have ce₄ : h₄.IsCell (L + 1) (some (.ref td)) := by obtain ⟨o, ho, hd⟩ := M₂.cell; exact ⟨o, lt4 _ _ ho, hd⟩
    have T₄ := hT.at fun o e => lt4 _ o (M₂.chg _ o tn e)
    refine tests1 (wpAny_isTrue_Compare1 (Subscript_ (n_cell (s := ⟨h₄, g, dr, t₄, os⟩) (c := L + 1) ce₄ (wpAny_Name (wpAny_loadName_local rfl rfl n₄ rfl (d_item (k := k) (tk := tk) T₄.dict T₄.sys (T₄.kval k hmem) fun t₅ => Constant_none (wpAny_is_plain (bv_plain _ none) (wpAny_truthy_bool ?_)))) (by decide)))))
    have e1 : (ovOf tv k == Value.none) = !(tv k).join.isSome := by
      show (bv (tv k).join == bv none) = _
      rw [bv_beq]
      cases (tv k).join <;> rfl
    rw [e1, take_succ' hkk, List.filter_append]
    cases q : (tv k).join.isSome with
    | true =>
      rw [if_neg (by decide)]
      refine ⟨h₄, _, rfl, Keep.refl _, ?_⟩
      rw [List.filter_cons_of_neg (by rw [q]; decide), List.filter_nil, List.append_nil]
      exact j
    | false =>
      rw [if_pos (by decide)]
      refine wpAny_Name (wpAny_loadName_local rfl rfl n₄ rfl ⟨h₄, _, rfl, Keep.refl _, ?_⟩) (by decide)
      rw [List.filter_cons_of_pos (by rw [q]; rfl), List.filter_nil]
      exact j.append (ints1 k tk)
  intro h₃ t₃ D₃ ys k₃ nD lD j
  rw [vkl, List.take_length] at j
  have M₃ := M₂.keep k₃
  refine ne_ints (ll₂.at fun o e => k₃ _ o e) iv₂ lD j (by omega) (wpAny_truthy_bool ?_)
  rw [if_neg (by decide)]
  exact wpAny_execs_nil (kk h₃ _ M₃)
end
end
end Mine
namespace Mine
noncomputable section
section
variable {w : World} {A : Around} {E : Value → Shared → Prop} {h₀ h h' hb hr : Heap} {L : Addr} {m : Str → Option Value} {g : Array GenState} {dr : Drawn} {t : Nat} {os : OsState} {p p' : Ptr} {tv : Int → Option (Option Bool)} {bf : Int → Option Bool} {nf : Int → Bool} {td bd fa ra : Addr} {T B : List (Int × Value)} {env : Env} {kl pl gl : Addr} {vk vp vg : List Value} {R : Flow → Shared → Prop} {Q : Value → Shared → Prop}
theorem llog_is (tv : Int → Option (Option Bool)) (bf : Int → Option Bool) : IsLog (llog (jn tv) bf K3) tv bf := by
  refine ⟨?_, fun k o n => ?_⟩
  · unfold llog
    rw [List.map_map]
    have : ((fun x : Int × Option Bool × Option Bool => x.1) ∘ fun k => (k, bf k, jn tv k)) = id := rfl
    rw [this, List.map_id]
    exact List.Pairwise.filter _ (by decide)
  · unfold llog
    rw [List.mem_map]
    constructor
    · rintro ⟨a, ha, e⟩
      cases e
      rw [List.mem_filter] at ha
      exact ⟨ha.1, rfl, rfl, by simpa using ha.2⟩
    · rintro ⟨h1, rfl, rfl, h4⟩
      exact ⟨k, List.mem_filter.mpr ⟨h1, by simpa using h4⟩, rfl⟩
theorem va_mem {kvs : List (Int × Value)} (nd : (kvs.map (·.1)).Nodup) {k : Int} {v : Value} (hm : (k, v) ∈ kvs) : valueAt kvs k = some v := by
  induction kvs with
  | nil => cases hm
  | cons x l ih =>
    rw [va_cons]
    rw [List.map_cons, List.nodup_cons] at nd
    rcases List.mem_cons.mp hm with e | e
    · subst e; rw [if_pos rfl]
    · rw [if_neg (fun q : x.1 = k => nd.1 (by rw [q]; exact List.mem_map_of_mem (f := (·.1)) e))]
      exact ih nd.2 e
theorem LogP.mem {kvs : List (Int × Value)} {Lg : List (Int × Option Bool × Option Bool)} (x : LogP h kvs Lg) {k : Int} {v : Value} (hm : (k, v) ∈ kvs) : ∃ (a b : Option Bool) (T : Addr), (k, a, b) ∈ Lg ∧ v = .ref T ∧ h.get? T = some (tup2 (bv a) (bv b)) := by
  obtain ⟨i, hi, e⟩ := List.mem_iff_getElem.mp hm
  have hi' : i < Lg.length := by rw [← x.len]; exact hi
  obtain ⟨T, e1, e2⟩ := x.2 i (k, v) Lg[i] (by rw [List.getElem?_eq_getElem hi, e]) (List.getElem?_eq_getElem hi')
  have ek : Lg[i].1 = k := by
    have q := congrArg (fun l : List Int => l[i]?) x.1
    simp only [List.getElem?_map, List.getElem?_eq_getElem hi, List.getElem?_eq_getElem hi', Option.map_some, Option.some.injEq, e] at q
    exact q.symm
  refine ⟨Lg[i].2.1, Lg[i].2.2, T, ?_, e1, e2⟩
  rw [← ek]
  exact List.getElem_mem hi'
theorem LogP.find {kvs : List (Int × Value)} {Lg : List (Int × Option Bool × Option Bool)} (x : LogP h kvs Lg) {k : Int} {a b : Option Bool} (hm : (k, a, b) ∈ Lg) : ∃ T : Addr, (k, .ref T) ∈ kvs ∧ h.get? T = some (tup2 (bv a) (bv b)) := by
  obtain ⟨i, hi, e⟩ := List.mem_iff_getElem.mp hm
  have hi' : i < kvs.length := by rw [x.len]; exact hi
  obtain ⟨T, e1, e2⟩ := x.2 i kvs[i] (k, a, b) (List.getElem?_eq_getElem hi') (by rw [List.getElem?_eq_getElem hi, e])
  have ek : kvs[i].1 = k := by
    have q := congrArg (fun l : List Int => l[i]?) x.1
    simp only [List.getElem?_map, List.getElem?_eq_getElem hi, List.getElem?_eq_getElem hi', Option.map_some, Option.some.injEq, e] at q
    exact q
  refine ⟨T, ?_, e2⟩
  have : kvs[i] = (k, .ref T) := Prod.ext ek e1
  rw [← this]
  exact List.getElem_mem hi'
theorem reads_two {T : Addr} {a b : Option Bool} (e : h.get? T = some (tup2 (bv a) (bv b))) : Reads h (.ref T) (.tuple [bd' a, bd' b]) [] := .tuple e rfl rfl (.cons (flat_bv a h) (.cons (flat_bv b h) .nil))
theorem two_shape (a b : Option Bool) : SeqAt.shaped (.tuple [bd' a, bd' b]) = true ∧ PyData.eqv (.tuple [bd' a, bd' b]) (.tuple [bd' a, bd' b]) = true := by
  rcases a with _ | _ | _ <;> rcases b with _ | _ | _ <;> exact ⟨rfl, rfl⟩
theorem IsLog.len {L₁ L₂ : List (Int × Option Bool × Option Bool)} (i₁ : IsLog L₁ tv bf) (i₂ : IsLog L₂ tv bf) : L₁.length = L₂.length := by
  have p := (List.perm_ext_iff_of_nodup i₁.nd i₂.nd).mpr fun k => by
    rw [List.mem_map, List.mem_map]
    constructor
    · rintro ⟨⟨k, o, n⟩, hm, rfl⟩; exact ⟨_, (i₂.mem k o n).mpr ((i₁.mem k o n).mp hm), rfl⟩
    · rintro ⟨⟨k, o, n⟩, hm, rfl⟩; exact ⟨_, (i₁.mem k o n).mpr ((i₂.mem k o n).mp hm), rfl⟩
  have := p.length_eq
  rwa [List.length_map, List.length_map] at this
theorem hits_logs {s : Shared} {kb : List (Int × Value)} {L₁ L₂ : List (Int × Option Bool × Option Bool)} (i₁ : IsLog L₁ tv bf) (i₂ : IsLog L₂ tv bf) (x₂ : LogP s.heap kb L₂) (nd : (kb.map (·.1)).Nodup) (hu : A.in1.units + 64 < cLine) :
    ∀ ka : List (Int × Value), (∀ k v, (k, v) ∈ ka → ∃ (a b : Option Bool) (T : Addr), (k, a, b) ∈ L₁ ∧ v = .ref T ∧ s.heap.get? T = some (tup2 (bv a) (bv b))) → KeqHits A.in1 s kb ka true
  | [], _ => .nil
  | (k, v) :: ka, q => by
    obtain ⟨a, b, T, hm, rfl, hT⟩ := q k v (List.mem_cons_self ..)
    obtain ⟨T', hm', hT'⟩ := x₂.find ((i₂.mem k a b).mpr ((i₁.mem k a b).mp hm))
    obtain ⟨c1, c2⟩ := two_shape a b
    have z := KeqHits.hit (A := A.in1) (s := s) (va_mem nd hm') (keq_at (A := A) (reads_two hT) (reads_two hT') c1 c1 hu) (hits_logs i₁ i₂ x₂ nd hu ka fun k v e => q k v (List.mem_cons_of_mem _ e))
    rw [c2] at z
    exact z
theorem dict_nd {a : Addr} {kvs : List (Int × Value)} (x : h.DictOf (IK w) a kvs) : (kvs.map (·.1)).Nodup := let ⟨_, _, hd⟩ := Heap.dictOf_iff.mp x; keysNodup_of_isDictOf hd
/-- two logs of the same -/
theorem ne_logs {d d' : Addr} {L₁ L₂ : List (Int × Option Bool × Option Bool)} (l₁ : LogAt w h d L₁) (l₂ : LogAt w h d' L₂) (i₁ : IsLog L₁ tv bf) (i₂ : IsLog L₂ tv bf) (s₁ : (d == sysModules) = false) (s₂ : (d' == sysModules) = false) (hu : A.units + 70 < cLine) (k : Q (.bool false) ⟨h, g, dr, t, os⟩) :
    wpAny (MM w) A (compareOp .NotEq (.ref d) (.ref d')) Q E ⟨h, g, dr, t, os⟩ := by
  obtain ⟨ka, da, pa⟩ := l₁
  obtain ⟨kb, db, pb⟩ := l₂
  refine keq_ne (s := ⟨h, g, dr, t, os⟩) (r := true) s₁ s₂ da db (by omega) (fun _ => hits_logs i₁ i₂ pb (dict_nd db) (by show A.units + 1 + 64 < cLine; omega) ka fun k v e => pa.mem e) ?_
  rw [pa.len, pb.len, i₁.len i₂, beq_self_eq_true]
  exact k
theorem f_chlog' (w : World) : findIn (KK w) (.ref 170) "get_changelog" = some (some (.ref 115)) := by kernel_rfl
theorem g_lawlog (w : World) : nsIn (KK w) mainGlobals "_law_log" = some (some (.ref 181)) := by kernel_rfl
/-- the row's list fresh -/
structure Fresh (h : Heap) (a : Addr) (vf : List Value) (ns : List Int) (nf : Int → Bool) : Prop where
  list : h.IsList a vf.toArray
  isI : IntsAre vf ns
  nd : ns.Nodup
  keys : ∀ k ∈ ns, k ∈ K3
  val : ∀ k ∈ K3, nf k = ns.contains k
/-- the dict before -/
structure Befo (w : World) (h : Heap) (a : Addr) (B : List (Int × Value)) (bf : Int → Option Bool) : Prop where
  dict : h.DictOf (IK w) a B
  keys : ∀ x ∈ B, x.1 ∈ K3
  val : ∀ k ∈ K3, (valueAt B k).getD .none = bv (bf k)
  sys : (a == sysModules) = false
/-- the checks of the new keys and of the log -/
theorem rd_log {vf : List Value} {ns : List Int} (G : Good0 w h₀) (hh : A.handled = none) (hroom : A.depth + 7 < recursionLimit) (hu : A.units + 100 < cLine) (M : Md w h₀ hr h L p tv bf nf td bd fa kl pl gl vk vp vg m) (hT : Told w hr td T tv) (tn : td ∉ [81, p.d])
    (hB : Befo w hr bd B bf) (bn : bd ∉ [81, p.d]) (hF : Fresh hr fa vf ns nf) (fn : fa ∉ [81, p.d]) (hcs : ∀ d, p.cv = .ref d → (d == sysModules) = false)
    (kk : ∀ h' t' d, (d == sysModules) = false → d ∉ p.addrs → (p.cv = .ref d ∨ hr.objs.size ≤ d) → Md w h₀ hr h' L { p with cv := .ref d } tv bf nf td bd fa kl pl gl vk vp vg m → wpAny (MM w) A (execs ((bdOf (fdOf (ob186 w).1)).drop 10) (envR w L)) R E ⟨h', g, dr, t', os⟩) :
    wpAny (MM w) A (execs ((bdOf (fdOf (ob186 w).1)).drop 9) (envR w L)) R E ⟨h, g, dr, t, os⟩ := by
  obtain ⟨D, Ol, S, Gs, N, X, r, _⟩ := id M.st
  have e1 : elts N = K3.filter fun k => ns.contains k := by
    rw [r.n]
    exact List.filter_congr fun k hk => hF.val k hk
  have hsz : hr.objs.size ≤ h.objs.size := Nat.le_trans M.hL (Nat.le_of_lt M.fm.ns.lt)
  refine wpAny_execs_cons (wpAny_If (isTrue_or (wpAny_isTrue_Compare1 (n_bf1 G M.fm boot_sorted (b_sorted w) (Attribute_name (m_name M.fm M.held rfl rfl rfl (m_getattr (v := .ref p.newk) (G.X.keeps M.fm.base) X.inst X.att.ns rfl (a_newk w) rfl fun t' => sorted_set hh X.newk fun h₁ t₁ l₁ vs₁ n₁ ll₁ iv₁ k₁ => ?_)))))))
  rw [e1] at iv₁
  have M₁ := M.keep k₁
  refine n_bf1 G M₁.fm boot_sorted (b_sorted w) (n_loc M₁.fm (v := .ref fa) (sorted_list (hF.list.at fun o e => M₁.chg _ o fn e) hF.isI hF.nd hF.keys fun h₂ t₂ l₂ vs₂ n₂ ll₂ iv₂ k₂ => ?_) M₁.fresh)
  have M₂ := M₁.keep k₂
  refine ne_ints (ll₁.at fun o e => k₂ _ o e) iv₁ ll₂ iv₂ (by omega) (wpAny_truthy_bool ?_)
  rw [if_neg (by decide)]
  -- the log
  obtain ⟨D₂, Ol₂, S₂, Gs₂, N₂, X₂, r₂, _⟩ := id M₂.st
  refine isTrue_or (wpAny_isTrue_Compare1 (n_um0 G M₂.fm X₂ (f_chlog' w) (fn115 w) (st_chlog G M₂.fm.base (by omega) hh M₂.st fun h₃ t₃ d Lg st₃ c₃ dn dq lg il => ?_) rfl (by kernel_rfl) M₂.held))
  have sd : (d == sysModules) = false := by
    rcases dq with q | q
    · exact hcs d q
    · exact G.sys M₂.fm.base q
  have hsz2 : hr.objs.size ≤ h₂.objs.size := Nat.le_trans M₂.hL (Nat.le_of_lt M₂.fm.ns.lt)
  have dq' : p.cv = .ref d ∨ hr.objs.size ≤ d := dq.imp id fun q => Nat.le_trans hsz2 q
  have nd2 := X₂.nd
  have cd₃ : Cd h₃ := M₂.cd.chg c₃ (by
    rw [List.mem_singleton]
    intro e
    have := list_ne M₂.lk X₂ M₂.cd
    obtain ⟨o, ps, h1, h2⟩ := M₂.cd.at81
    obtain ⟨_, _, _, g1, g2, _⟩ := X₂.att
    rw [e, g1] at h1; cases h1; rw [h2] at g2; cases g2) (by
    rw [List.mem_singleton]
    intro e
    have := X₂.low p.d (by simp)
    rw [← e, G.X 85 _ rfl] at this
    cases this)
  have M₃ : Md w h₀ hr h₃ L { p with cv := .ref d } tv bf nf td bd fa kl pl gl vk vp vg m := M₂.go (c₃.mono fun a ha => by rw [List.mem_singleton] at ha; simp [ha]) st₃ rfl rfl cd₃
  have T₃ := hT.at fun o e => M₃.chg _ o tn e
  have B₃ := DictOf_at hB.dict fun o e => M₃.chg _ o bn e
  refine n_call2 G M₃.fm (g_lawlog w) (by kernel_rfl) (n_cell (c := L + 1) M₃.cell (n_loc M₃.fm (v := .ref bd) ⟨M₃.fm.base, lawlog_ok (tj := jn tv) (bj := bf) G M₃.fm.base (by omega) hh T₃.dict B₃ hT.sys hB.sys (fun k _ => ?_) hB.val fun h₄ t₄ d' dn' sd' lg' k₄ => ?_⟩ M₃.before))
  · rw [hT.val]
    show ((tv k).map bv).getD .none = bv (tv k).join
    cases tv k <;> rfl
  have M₄ := M₃.keep k₄
  refine ne_logs (lg.keep k₄) lg' il (llog_is tv bf) sd sd' (by omega) (wpAny_truthy_bool ?_)
  rw [if_neg (by decide)]
  refine isTrue_or_nil ?_
  rw [if_neg (by decide)]
  exact wpAny_execs_nil (kk h₄ _ d sd dn dq' M₄)
end
end
end Mine
namespace Mine
noncomputable section
theorem f_value (w : World) : findIn (KK w) (.ref 170) "value" = some (some (.ref 143)) := by kernel_rfl
theorem f_getm (w : World) : findIn (KK w) (.ref 170) "get" = some (some (.ref 58)) := by kernel_rfl
section
variable {w : World} {A : Around} {E : Value → Shared → Prop} {h₀ h hb : Heap} {L : Addr} {m : Str → Option Value} {g : Array GenState} {dr : Drawn} {t : Nat} {os : OsState} {p : Ptr} {D O : List (Int × Value)} {S Gs N : Int → Bool} {Q : Value → Shared → Prop} {env : Env}
/-- i in object -/
theorem o_in {x d : Addr} {f : Str → Option Value} {i : Value} (X : (KK w).In h) (hx : h.get? x = some (instObj 170 d)) (hn : h.Ns d f)
    (k : wpAny (MM w) A (call (.ref 79) [.ref x, i]) (fun v s' => ∃ b, v = .bool b ∧ Q (.bool b) s') E ⟨h, g, dr, t, os⟩) : wpAny (MM w) A (compareOp .In i (.ref x)) Q E ⟨h, g, dr, t, os⟩ := by
  obtain ⟨od, I, _⟩ := inst_at hx hn
  have bnd : ∀ {M : Model}, Looks M h (bindSpecial (.ref 79) (.ref x)) (.ref 79, [.ref x]) := bind_fn X _ (by kernel_rfl)
  show wpAny _ _ (do return .bool (← contains (.ref x) i)) Q E _
  refine wpAny_bind ?_
  unfold contains
  refine wpAny_holding ?_
  rw [stdlibNamesSay?_ref]
  dsimp only
  refine wpAny_bind (wpAny_bind (I.type.here ((looks_findIn X (f_cont w)).here ?_)))
  rw [if_neg (show ¬ ((some (Value.ref 79) == some Value.none) = true) from Bool.false_ne_true)]
  refine wpAny_bind ?_
  simp only [callSpecialUnlessNone?]
  refine wpAny_bind (wpAny_bind (I.type.here ((looks_findIn X (f_cont w)).here ?_)))
  refine wpAny_holding (wpAny_bind (bnd.here ?_))
  dsimp only
  rw [if_neg (show ¬ ((Value.ref 79 == Value.none) = true) from Bool.false_ne_true)]
  refine wpAny_bind (wpAny_mono k (fun v s' q => ?_) fun _ _ z => z)
  obtain ⟨b, rfl, q⟩ := q
  exact wpAny_pure (wpAny_truthy_bool (wpAny_pure q))
/-- x.NAME(e), a method of the class -/
theorem n_um1 {x : Str} {np apos pos : Pos} {name : Str} {e : Expr} {fa : Addr} {o : Obj} (G : Good0 w h₀) (fm : Fm h₀ L hb h m) (X : AS w h₀ h p D O S Gs N) (hc : findIn (KK w) (.ref 170) name = some (some (.ref fa))) (fn : FnIs w fa o)
    (k : wpAny (MM w) A (eval e env) (fun v s₁ => Keep h₀ s₁.heap ∧ wpAny (MM w) A (call (.ref fa) [.ref p.x, v]) Q E s₁) E ⟨h, g, dr, t, os⟩)
    (hself : m x = some (.ref p.x))
    (hat : atts p name = none := by rfl) (ht : typeIn (KK w) (.ref fa) = some (.type "function") := by kernel_rfl)
    (hk : env.scope.kind = .function := by rfl) (hL : env.locals = L := by rfl) (hl : env.kindOf x = some .local := by rfl)
    (he : eval (.Call (.Attribute (.Name x np) name apos) [e] [] pos) env = (do
      let ov ← eval (.Name x np) env
      standAt apos.atName
      let (fx, first) ← holding [ov] (getMethod ov name (do return ((← importBound (.Name x np) env).getD true)))
      callWith pos fx first (backTo pos (starEach [e] env)) []) := by rfl)
    (hs : starEach [e] env = (false, eval e env) :: starEach [] env := by rfl) (hd : (x == ("__debug__" : Str)) = false := by decide) :
    wpAny (MM w) A (eval (.Call (.Attribute (.Name x np) name apos) [e] [] pos) env) Q E ⟨h, g, dr, t, os⟩ := by
  refine MethodCall_ (m_name fm hself hk hL hl (m_method (G.X.keeps fm.base) X.inst X.att.ns hat hc ht ?_) hd) he
  refine callWith_meth (h₀ := h₀) fn.data (G.X _ _ fn.at_) ?_ hs
  exact args_cons (wpAny_mono k (fun v s₁ q => args_nil q) fun _ _ x => x) hs
/-- k in dict -/
theorem d_in {a : Addr} {kvs : List (Int × Value)} {k : Int} {tk : Tok} (hd : h.DictOf (IK w) a kvs) (lo : (a == sysModules) = false) (kk : ∀ t', Q (.bool (valueAt kvs k).isSome) ⟨h, g, dr, t', os⟩) :
    wpAny (MM w) A (compareOp .In (.int k tk) (.ref a)) Q E ⟨h, g, dr, t, os⟩ := wpAny_in_of (knd := IK w) (s := ⟨h, g, dr, t, os⟩) (intKind_is PR w k tk) lo hd.mapOf (kk _)
/-- CELL.get(key) -/
theorem n_cget {x y : Str} {np apos yp pos : Pos} {a c : Addr} {kvs : List (Int × Value)} {k : Int} {tk : Tok} (fm : Fm h₀ L hb h m) (hce : h.IsCell c (some (.ref a))) (hd : h.DictOf (IK w) a kvs) (hs : (a == sysModules) = false) (kk : ∀ t', Q ((valueAt kvs k).getD .none) ⟨h, g, dr, t', os⟩)
    (hy : m y = some (.int k tk)) (hk : env.scope.kind = .function := by rfl) (hL : env.locals = L := by rfl) (hlx : env.kindOf x = some .cell := by rfl) (hlc : env.cells.lookup x = some c := by rfl) (hly : env.kindOf y = some .local := by rfl)
    (hdx : (x == ("__debug__" : Str)) = false := by decide) (hdy : (y == ("__debug__" : Str)) = false := by decide)
    (he : eval (.Call (.Attribute (.Name x np) "get" apos) [.Name y yp] [] pos) env = (do
      let ov ← eval (.Name x np) env
      standAt apos.atName
      let (f, first) ← holding [ov] (getMethod ov "get" (do return ((← importBound (.Name x np) env).getD true)))
      callWith pos f first (backTo pos (starEach [.Name y yp] env)) []) := by rfl) :
    wpAny (MM w) A (eval (.Call (.Attribute (.Name x np) "get" apos) [.Name y yp] [] pos) env) Q E ⟨h, g, dr, t, os⟩ :=
  n_bm1 F.plainAttrs_dict F.slot_dict_get F.type_dict_get (n_cell (s := ⟨h, g, dr, t, os⟩) hce ⟨_, rfl, DictOf_ob hd, m_name fm hy hk hL hly (n_get1 (k := k) (tk := tk) hd hs kk) hdy⟩ hk hlx hlc hdx) he rfl
end
end
end Mine
namespace Mine
noncomputable section
noncomputable abbrev frs (l : List Env) : List Addr := l.filterMap (·.frame)
section
variable {w : World} {A : Around} {E : Value → Shared → Prop} {h₀ h h' hb hr : Heap} {L : Addr} {m m' : Str → Option Value} {g : Array GenState} {dr : Drawn} {t : Nat} {os : OsState} {p p' : Ptr} {tv : Int → Option (Option Bool)} {bf : Int → Option Bool} {nf : Int → Bool} {td bd fa ra : Addr} {T B : List (Int × Value)} {env : Env} {outer : List Env} {R : Flow → Shared → Prop} {Q : Value → Shared → Prop}
/-- a dict of ints is no namespace that holds a name -/
theorem dict_ne_ns {a b : Addr} {kvs : List (Int × Value)} {x : Str} {v : Value} (hd : h.DictOf (IK w) a kvs) (hn : h.Ns b m) (e : m x = some v) : a ≠ b := by
  rintro rfl
  obtain ⟨o, es, ep, ho, _, hdd, hk, _⟩ := hd
  obtain ⟨o', es', ep', ho', hdd', hs, hf⟩ := hn
  rw [ho] at ho'; cases ho'
  rw [hdd] at hdd'; cases hdd'
  have q := hf x
  rw [e] at q
  unfold nsFind findBy at q
  cases z : es.find? (fun en => en.key.isStr x) with
  | none => rw [z] at q; cases q
  | some en =>
    have hm := Array.mem_of_find?_eq_some z
    obtain ⟨k, hk1, _⟩ := hk en hm
    obtain ⟨n, tt, hs1⟩ := hs en hm
    rw [hs1] at hk1
    exact absurd hk1 (by simp [IK, intKind, Value.isInt])
theorem ff_of : ∀ {l : List Env}, h.FunFrames {} l → (∀ b ∈ frs l, ∀ o, h.get? b = some o → (∀ vs, o.data ≠ .fields vs) → ∃ o', h'.get? b = some o' ∧ ∀ vs, o'.data ≠ .fields vs) → h'.FunFrames {} l
  | [], _, _ => trivial
  | env :: l, x, k => by
    obtain ⟨hk, ⟨L, o, hf, hn, ho, hd⟩, hr⟩ := x
    obtain ⟨o', ho', hd'⟩ := k L (List.mem_filterMap.mpr ⟨env, by simp, hf⟩) o ho hd
    refine ⟨hk, ⟨L, o', hf, hn, ho', hd'⟩, ff_of hr fun b hb => k b ?_⟩
    obtain ⟨e, he, hb'⟩ := List.mem_filterMap.mp hb
    exact List.mem_filterMap.mpr ⟨e, List.mem_cons_of_mem _ he, hb'⟩
/-- what stands fixed while _law_reads runs -/
structure Ctx (w : World) (h₀ hr : Heap) (L : Addr) (outer : List Env) (p : Ptr) (td : Addr) (T : List (Int × Value)) (tv : Int → Option (Option Bool)) : Prop where
  kr : Keep h₀ hr
  hL : hr.objs.size ≤ L
  plt : ∀ a ∈ p.addrs, a < hr.objs.size
  ff : hr.FunFrames {} outer
  frN : ∀ a ∈ frs outer, ∃ m x v, hr.Ns a m ∧ m x = some v
  frlow : ∀ a ∈ frs outer, h₀.get? a = none
  frp : ∀ a ∈ p.addrs, a ∉ frs outer
  tol : Told w hr td T tv
  tn : td ∉ [81, p.d]
  big : 203 < hr.objs.size
  n81 : h₀.get? 81 = none
theorem Ctx.frlt (C : Ctx w h₀ hr L outer p td T tv) : ∀ a ∈ frs outer, a < hr.objs.size := fun a ha => let ⟨_, _, _, n, _⟩ := C.frN a ha; n.lt
theorem Ctx.tfr (C : Ctx w h₀ hr L outer p td T tv) : td ∉ frs outer := fun q => let ⟨_, _, _, n, e⟩ := C.frN td q; dict_ne_ns C.tol.dict n e rfl
/-- the state in the last loop of _law_reads -/
structure Lp (w : World) (h₀ hr h : Heap) (L : Addr) (outer : List Env) (p : Ptr) (tv : Int → Option (Option Bool)) (bf : Int → Option Bool) (nf : Int → Bool) (td : Addr) (m : Str → Option Value) : Prop where
  fm : Fm h₀ L h h m
  held : m "held" = some (.ref p.x)
  cell : h.IsCell (L + 1) (some (.ref td))
  st : St w h₀ h p tv bf nf
  cd : Cd h
  chg : Chg (81 :: p.d :: frs outer) hr h
  slots : ∀ b ∈ frs outer, ∀ o, hr.get? b = some o → (∀ vs, o.data ≠ .fields vs) → ∃ sl, h.get? b = some { o with slots := sl }
theorem Lp.ns (C : Ctx w h₀ hr L outer p td T tv) (P : Lp w h₀ hr h L outer p tv bf nf td m) {a : Addr} (ha : a ∈ frs outer) : ∃ m x v, h.Ns a m ∧ m x = some v := by
  obtain ⟨m, x, v, ⟨o, es, ep, ho, hd, hs, hf⟩, e⟩ := C.frN a ha
  obtain ⟨sl, q⟩ := P.slots a ha o ho (fun vs q => by rw [hd] at q; cases q)
  exact ⟨m, x, v, ⟨_, es, ep, q, hd, hs, hf⟩, e⟩
theorem Lp.go {l : List Addr} (C : Ctx w h₀ hr L outer p td T tv) (P : Lp w h₀ hr h L outer p tv bf nf td m) (c : Chg l h h') (ok : ∀ a ∈ l, a = L ∨ a ∈ frs outer ∨ (hr.objs.size ≤ a ∧ ∃ o fs, h.get? a = some o ∧ o.data = .fields fs))
    (fm' : Fm h₀ L h' h' m') (e' : m' "held" = some (.ref p.x)) (sl : ∀ b ∈ frs outer, ∀ o, h.get? b = some o → (∀ vs, o.data ≠ .fields vs) → ∃ sl, h'.get? b = some { o with slots := sl }) : Lp w h₀ hr h' L outer p tv bf nf td m' := by
  have big := C.big
  have hL := C.hL
  have nC : L + 1 ∉ l := fun q => by
    rcases ok _ q with q | q | ⟨_, o, fs, ho, hd⟩
    · exact Nat.succ_ne_self _ q
    · exact absurd (C.frlt _ q) (Nat.not_lt.mpr (Nat.le_succ_of_le hL))
    · obtain ⟨o', ho', hd'⟩ := P.cell
      rw [ho] at ho'; cases ho'; rw [hd] at hd'; cases hd'
  have n85 : 85 ∉ l := fun q => by
    rcases ok _ q with q | q | ⟨q, _⟩
    · have : (85 : Nat) = L := q
      omega
    · obtain ⟨_, _, _, n, _⟩ := P.ns C q
      obtain ⟨ps, cc, _⟩ := P.cd
      obtain ⟨o, ho, hd⟩ : ∃ o, h.get? 85 = some o ∧ ∀ es ep, o.data ≠ .dict es ep := by
        obtain ⟨o, vs, _, _, _, _, _, _, _, _, ho, hd, _⟩ := cc
        exact ⟨o, ho, fun _ _ e => by rw [e] at hd; cases hd⟩
      obtain ⟨_, es, ep, ho', hd', _⟩ := n
      rw [ho] at ho'; cases ho'; exact hd _ _ hd'
    · have : hr.objs.size ≤ (85 : Nat) := q
      omega
  have n81 : 81 ∉ l := fun q => by
    rcases ok _ q with q | q | ⟨q, _⟩
    · have : (81 : Nat) = L := q
      omega
    · obtain ⟨_, _, _, ⟨_, es, ep, ho', hd', _⟩, _⟩ := P.ns C q
      obtain ⟨o, ps, ho, hd⟩ := P.cd.at81
      rw [ho] at ho'; cases ho'; rw [hd] at hd'; cases hd'
    · have : hr.objs.size ≤ (81 : Nat) := q
      omega
  refine ⟨fm', e', ?_, P.st.chg c ?_ ?_ ?_, P.cd.chg c n81 n85, fun b o n e => ?_, fun b hb o ho hd => ?_⟩
  · obtain ⟨o, ho, hd⟩ := P.cell
    exact ⟨o, c _ _ nC ho, hd⟩
  · intro a ha u v e
    rcases ok a ha with q | q | ⟨_, o, fs, ho, hd⟩
    · subst q
      obtain ⟨_, es, ep, ho', hd', _⟩ := P.fm.ns
      rw [e] at ho'; cases ho'; cases hd'
    · obtain ⟨_, _, _, ⟨_, es, ep, ho', hd', _⟩, _⟩ := P.ns C q
      rw [e] at ho'; cases ho'; cases hd'
    · rw [e] at ho; cases ho; cases hd
  · intro a ha q
    have lt := C.plt a ha
    rcases ok a q with q | q | ⟨q, _⟩
    · exact absurd lt (Nat.not_lt.mpr (by rw [q]; exact hL))
    · exact C.frp a ha q
    · exact absurd lt (Nat.not_lt.mpr q)
  · intro d hd q
    obtain ⟨D, Ol, S, G, N, X, r, cv⟩ := P.st
    rcases cv with cv | ⟨d', cv, _, ⟨kvs, dd, _⟩⟩
    · rw [cv] at hd; cases hd
    · rw [cv] at hd
      injection hd with hd
      subst hd
      rcases ok _ q with q | q | ⟨_, o, fs, ho, hf⟩
      · exact dict_ne_ns dd P.fm.ns P.held q
      · obtain ⟨_, _, _, n, e⟩ := P.ns C q
        exact dict_ne_ns dd n e rfl
      · obtain ⟨o', es, ep, ho', _, hd', _⟩ := dd
        rw [ho] at ho'; cases ho'; rw [hf] at hd'; cases hd'
  · have lt : b < hr.objs.size := Heap.lt_size e
    refine c b o (fun q => ?_) (P.chg b o n e)
    rcases ok b q with q | q | ⟨q, _⟩
    · exact absurd lt (Nat.not_lt.mpr (by rw [q]; exact hL))
    · exact n (List.mem_cons_of_mem _ (List.mem_cons_of_mem _ q))
    · exact absurd lt (Nat.not_lt.mpr q)
  · obtain ⟨s1, q⟩ := P.slots b hb o ho hd
    obtain ⟨s2, q'⟩ := sl b hb _ q hd
    exact ⟨s2, q'⟩
theorem Lp.keep (C : Ctx w h₀ hr L outer p td T tv) (P : Lp w h₀ hr h L outer p tv bf nf td m) (k : Keep h h') : Lp w h₀ hr h' L outer p tv bf nf td m :=
  P.go C (l := []) (Chg.of_keep k) (fun a ha => nomatch ha) (P.fm.keep k).here P.held fun b _ o ho _ => ⟨o.slots, k b o ho⟩
theorem Lp.store (C : Ctx w h₀ hr L outer p td T tv) (P : Lp w h₀ hr h L outer p tv bf nf td m) (c : Chg [L] h h') (fm' : Fm h₀ L h' h' m') (e' : m' "held" = some (.ref p.x)) : Lp w h₀ hr h' L outer p tv bf nf td m' :=
  P.go C c (fun a ha => .inl (by simpa using ha)) fm' e' fun b hb o ho _ => ⟨o.slots, c b o (fun q => absurd (C.frlt b hb) (Nat.not_lt.mpr (by rw [List.mem_singleton] at q; rw [q]; exact C.hL))) ho⟩
theorem Lp.turn (C : Ctx w h₀ hr L outer p td T tv) (P : Lp w h₀ hr h L outer p tv bf nf td m) {I : Addr} (c : Chg [I] h h') (hI : hr.objs.size ≤ I) {o : Obj} {fs : Array Value} (ho : h.get? I = some o) (hd : o.data = .fields fs) : Lp w h₀ hr h' L outer p tv bf nf td m := by
  have IL : L ∉ [I] := by
    rw [List.mem_singleton]
    rintro rfl
    obtain ⟨_, es, ep, ho', hd', _⟩ := P.fm.ns
    rw [ho] at ho'; cases ho'; rw [hd] at hd'; cases hd'
  exact P.go C c (fun a ha => .inr (.inr (by rw [List.mem_singleton] at ha; subst ha; exact ⟨hI, o, fs, ho, hd⟩))) (P.fm.chg c IL fun a ha => by rw [List.mem_singleton] at ha; subst ha; exact low_size C.kr hI) P.held
    fun b hb o ho _ => ⟨o.slots, c b o (fun q => absurd (C.frlt b hb) (Nat.not_lt.mpr (by rw [List.mem_singleton] at q; rw [q]; exact hI))) ho⟩
theorem Lp.told (C : Ctx w h₀ hr L outer p td T tv) (P : Lp w h₀ hr h L outer p tv bf nf td m) : Told w h td T tv := C.tol.at fun o e => P.chg _ o (fun q => by
  rcases List.mem_cons.mp q with q | q
  · exact C.tn (by simp [q])
  · rcases List.mem_cons.mp q with q | q
    · exact C.tn (by simp [q])
    · exact C.tfr q) e
theorem Lp.frames (C : Ctx w h₀ hr L outer p td T tv) (P : Lp w h₀ hr h L outer p tv bf nf td m) : h.FunFrames {} (envR w L :: outer) := by
  refine ⟨by show ScopeKind.function ≠ .module; decide, ?_, ff_of C.ff fun b hb o ho hd => ?_⟩
  · obtain ⟨oL, es, ep, ho, hdd, _⟩ := P.fm.ns
    exact ⟨L, oL, rfl, rfl, ho, fun vs q => by rw [hdd] at q; cases q⟩
  · obtain ⟨sl, q⟩ := P.slots b hb o ho hd
    exact ⟨_, q, hd⟩
end
end
end Mine
namespace Mine
noncomputable section
noncomputable def forB : List Stmt → List Stmt
  | .For _ _ b _ _ :: _ => b
  | _ => []
noncomputable abbrev inB (w : World) : List Stmt := forB (forB ((bdOf (fdOf (ob186 w).1)).drop 10))
section
variable {w : World} {A : Around} {E : Value → Shared → Prop} {h₀ h h' hb hr : Heap} {L : Addr} {m m' : Str → Option Value} {g : Array GenState} {dr : Drawn} {t : Nat} {os : OsState} {p p' : Ptr} {tv : Int → Option (Option Bool)} {bf : Int → Option Bool} {nf : Int → Bool} {td bd fa ra : Addr} {T B : List (Int × Value)} {env : Env} {outer : List Env} {R : Flow → Shared → Prop} {Q : Value → Shared → Prop} {k wish : Int} {tk tw : Tok} {wv : Option Bool}
theorem wv_pos {D : List (Int × Value)} {Ol : List (Int × Option Bool)} {S Gs N : Int → Bool} (r : Rel D Ol S Gs N tv bf nf) (hk : k ∈ K3) : (valueAt D k).getD .none = bv (tv k).join ∧ (valueAt D (-k)).getD .none = bv ((tv k).join.map (!·)) := by
  rw [r.pos k hk, r.neg k hk]
  cases (tv k).join <;> exact ⟨rfl, rfl⟩
/-- the tail of a turn: want is known -/
theorem rd_turn2 (G : Good0 w h₀) (hh : A.handled = none) (hroom : A.depth + 7 < recursionLimit) (hu : A.units + 100 < cLine) (hfr : A.frames = some (envR w L :: outer)) (C : Ctx w h₀ hr L outer p td T tv) (P : Lp w h₀ hr h L outer p tv bf nf td m) (hk : k ∈ K3) (hw : ab wish = k)
    (hwv : ∀ D Ol S Gs N, Rel D Ol S Gs N tv bf nf → (valueAt D wish).getD .none = bv wv) (hwn : ∀ D Ol S Gs N, Rel D Ol S Gs N tv bf nf → tv k = none → valueAt D wish = none)
    (mk : m "key" = some (.int k tk)) (mw : m "wish" = some (.int wish tw)) (mq : m "want" = some (bv wv))
    (kk : ∀ h' t' m', Lp w h₀ hr h' L outer p tv bf nf td m' → m' "key" = some (.int k tk) → Chg (L :: frs outer) h h' → R .next ⟨h', g, dr, t', os⟩) :
    wpAny (MM w) A (execs ((inB w).drop 2) (envR w L)) R E ⟨h, g, dr, t, os⟩ := by
  have T₀ := P.told C
  obtain ⟨D, Ol, S, Gs, N, X, r, _⟩ := id P.st
  have es : S (ab wish) = (tv k).isSome := by rw [r.s, hw]
  have et : (valueAt T k).isSome = (tv k).isSome := by rw [T₀.val, Option.isSome_map]
  -- (wish in held) is not (key in told)
  refine wpAny_execs_cons (wpAny_If (wpAny_isTrue_Compare1 (wpAny_Compare1 (n_loc P.fm (v := .int wish tw) (n_loc P.fm (v := .ref p.x) (o_in (G.X.keeps P.fm.base) X.inst X.att.ns (contains_ok (key := wish) (tk := tw) G P.fm.base (by omega) X fun h₁ t₁ k₁ => ⟨_, rfl, ?_⟩)) P.held) mw))))
  have P₁ := P.keep C k₁
  have T₁ := P₁.told C
  refine wpAny_Compare1 (n_loc P₁.fm (v := .int k tk) (n_cell (c := L + 1) P₁.cell (d_in (k := k) (tk := tk) T₁.dict T₁.sys fun t₂ => wpAny_isNot_plain rfl (wpAny_truthy_bool ?_))) mk)
  rw [es, et]
  have e1 : (!((Value.bool (tv k).isSome) == (Value.bool (tv k).isSome))) = false := by cases (tv k).isSome <;> rfl
  rw [e1, if_neg (by decide)]
  refine wpAny_execs_nil ?_
  -- held.value(wish) is not want
  obtain ⟨D₁, Ol₁, S₁, Gs₁, N₁, X₁, r₁, _⟩ := id P₁.st
  refine wpAny_execs_cons (wpAny_If (isTrue_or (wpAny_isTrue_Compare1 (n_um1 G P₁.fm X₁ (f_value w) (fn143 w) (n_loc P₁.fm (v := .int wish tw) ⟨P₁.fm.base, value_ok (key := wish) (tk := tw) G P₁.fm.base (by omega) X₁ fun h₂ t₂ k₂ => ?_⟩ mw) P₁.held))))
  have P₂ := P₁.keep C k₂
  rw [hwv _ _ _ _ _ r₁]
  refine n_loc P₂.fm (v := bv wv) (wpAny_isNot_plain (bv_plain _ _) (wpAny_truthy_bool ?_)) mq
  have e2 : (!(bv wv == bv wv)) = false := by rw [bv_beq]; simp
  rw [e2, if_neg (by decide)]
  obtain ⟨D₂, Ol₂, S₂, Gs₂, N₂, X₂, r₂, _⟩ := id P₂.st
  refine isTrue_or (wpAny_isTrue_Compare1 (n_um1 G P₂.fm X₂ (f_getm w) (fn58 w) (n_loc P₂.fm (v := .int wish tw) ⟨P₂.fm.base, get_ok (key := wish) (tk := tw) G P₂.fm.base (by omega) X₂ fun h₃ t₃ k₃ => ?_⟩ mw) P₂.held))
  have P₃ := P₂.keep C k₃
  rw [hwv _ _ _ _ _ r₂]
  refine n_loc P₃.fm (v := bv wv) (wpAny_isNot_plain (bv_plain _ _) (wpAny_truthy_bool ?_)) mq
  rw [e2, if_neg (by decide)]
  refine isTrue_or_nil ?_
  rw [if_neg (by decide)]
  refine wpAny_execs_nil ?_
  have c₃ : Keep h h₃ := fun b o e => k₃ b o (k₂ b o (k₁ b o e))
  obtain ⟨D₃, Ol₃, S₃, Gs₃, N₃, X₃, r₃, _⟩ := id P₃.st
  have es₃ : S₃ (ab wish) = (tv k).isSome := by rw [r₃.s, hw]
  cases hq : (tv k).isSome with
  | true =>
    refine wpAny_execs_cons (try_val (key := wish) (tk := tw) G P₃.fm (by omega) X₃ (.inr (by rw [es₃, hq])) ⟨wv, hwv _ _ _ _ _ r₃⟩ P₃.held mw rfl rfl rfl rfl rfl fun h₄ t₄ fm₄ c₄ => ?_)
    rw [hwv _ _ _ _ _ r₃] at fm₄
    have P₄ := P₃.store C c₄ fm₄ (by exact P₃.held)
    have T₄ := P₄.told C
    refine wpAny_execs_cons (wpAny_If (wpAny_isTrue_Compare1 (n_loc P₄.fm (v := .int k tk) (n_cell (c := L + 1) P₄.cell (d_in (k := k) (tk := tk) T₄.dict T₄.sys fun t₅ => wpAny_truthy_bool ?_)) (by exact mk))))
    rw [et, hq, if_pos rfl]
    refine wpAny_execs_cons (wpAny_If (wpAny_isTrue_Compare1 (n_loc P₄.fm (v := bv wv) (n_loc P₄.fm (v := bv wv) (wpAny_isNot_plain (bv_plain _ _) (wpAny_truthy_bool ?_)) (by exact mq)) rfl)))
    rw [e2, if_neg (by decide)]
    exact wpAny_execs_nil (wpAny_execs_nil (wpAny_execs_nil (kk h₄ _ _ P₄ (by exact mk) fun b o n e => c₄ b o (fun q => n (by rw [List.mem_singleton] at q; simp [q])) (c₃ b o e))))
  | false =>
    have hn : tv k = none := by cases z : tv k with
      | none => rfl
      | some o => rw [z] at hq; cases hq
    have lowf : ∀ a ∈ (envR w L :: outer).filterMap (·.frame), h₀.get? a = none := fun a ha => by
      rcases List.mem_cons.mp (show a ∈ L :: frs outer from ha) with q | q
      · rw [q]; exact low_size C.kr C.hL
      · exact C.frlow a q
    refine wpAny_execs_cons (try_raise (key := wish) (tk := tw) G P₃.fm (by omega) hh X₃ (hwn _ _ _ _ _ r₃ hn) (by rw [es₃, hq]) hfr (P₃.frames C) rfl lowf P₃.held mw rfl rfl rfl rfl rfl rfl rfl rfl fun h₄ t₄ u fm₄ c₄ sl₄ => ?_)
    replace c₄ : Chg (L :: frs outer) h₃ h₄ := c₄
    have P₄ : Lp w h₀ hr h₄ L outer p tv bf nf td _ := P₃.go C c₄ (fun a ha => by
      rcases List.mem_cons.mp ha with q | q
      · exact .inl q
      · exact .inr (.inl q)) fm₄ (by exact P₃.held) fun b hb o ho hd => sl₄ b o (fun q => absurd (C.frlt b hb) (Nat.not_lt.mpr (by rw [q]; exact C.hL))) ho hd
    have T₄ := P₄.told C
    refine wpAny_execs_cons (wpAny_If (wpAny_isTrue_Compare1 (n_loc P₄.fm (v := .int k tk) (n_cell (c := L + 1) P₄.cell (d_in (k := k) (tk := tk) T₄.dict T₄.sys fun t₅ => wpAny_truthy_bool ?_)) (by exact mk))))
    rw [et, hq, if_neg (by decide)]
    refine wpAny_execs_cons (wpAny_If (wpAny_isTrue_Compare1 (n_loc P₄.fm (v := .str "unknown" u) (wpAny_Constant_str (PyProof.Rows.ne_str (wpAny_truthy_bool ?_))) rfl)))
    have e3 : (("unknown" : Str) != "unknown") = false := bne_self_eq_false _
    rw [e3, if_neg (by decide)]
    exact wpAny_execs_nil (wpAny_execs_nil (wpAny_execs_nil (kk h₄ _ _ P₄ (by exact mk) fun b o n e => c₄ b o n (c₃ b o e))))
/-- a turn -/
theorem rd_turn (G : Good0 w h₀) (hh : A.handled = none) (hroom : A.depth + 7 < recursionLimit) (hu : A.units + 100 < cLine) (hfr : A.frames = some (envR w L :: outer)) (C : Ctx w h₀ hr L outer p td T tv) (P : Lp w h₀ hr h L outer p tv bf nf td m) (hk : k ∈ K3) (hw : wish = k ∨ wish = -k)
    (mk : m "key" = some (.int k tk)) (mw : m "wish" = some (.int wish tw))
    (kk : ∀ h' t' m', Lp w h₀ hr h' L outer p tv bf nf td m' → m' "key" = some (.int k tk) → Chg (L :: frs outer) h h' → R .next ⟨h', g, dr, t', os⟩) :
    wpAny (MM w) A (execs (inB w) (envR w L)) R E ⟨h, g, dr, t, os⟩ := by
  have T₀ := P.told C
  have kp := k3_pos hk
  have haw : ab wish = k := by
    rcases hw with rfl | rfl
    · exact if_neg (by omega)
    · show (if -k < 0 then - -k else -k) = k
      rw [if_pos (by omega)]; omega
  have ev : (valueAt T k).getD .none = bv (tv k).join := by rw [T₀.val]; cases tv k <;> rfl
  refine wpAny_execs_cons (wpAny_Assign_Name (n_cget (k := k) (tk := tk) P.fm P.cell T₀.dict T₀.sys (fun t₁ => ?_) mk))
  rw [ev]
  refine m_store P.fm rfl rfl fun h₁ t₁ fm₁ => ?_
  have c₁ : Chg [L] h h₁ := fun b o n e => fm₁.ext b o (by simpa using n) e
  have P₁ := P.store C c₁ fm₁.here (by exact P.held)
  have cc : ∀ h', Chg (L :: frs outer) h₁ h' → Chg (L :: frs outer) h h' := fun h' c => (c₁.mono fun a ha => by rw [List.mem_singleton] at ha; simp [ha]).trans c
  have neg : ∀ D Ol S Gs N, Rel D Ol S Gs N tv bf nf → tv k = none → valueAt D wish = none := fun D Ol S Gs N r e => by
    rcases hw with rfl | rfl
    · rw [r.pos _ hk, e]; rfl
    · rw [r.neg _ hk, e]; rfl
  refine wpAny_execs_cons (wpAny_If (isTrue_and (wpAny_isTrue_Compare1 (n_loc P₁.fm (v := .int wish tw) (wpAny_Constant_int (PyProof.Rows.lt_int (wpAny_truthy_bool ?_))) (by exact mw)))))
  by_cases hlt : wish < 0
  · have hwk : wish = -k := by
      rcases hw with q | q
      · omega
      · exact q
    rw [decide_eq_true hlt, if_pos rfl]
    refine isTrue_and (wpAny_isTrue_Compare1 (n_loc P₁.fm (v := bv (tv k).join) (Constant_none (wpAny_isNot_plain (bv_plain _ none) (wpAny_truthy_bool ?_))) rfl))
    have e1 : (!(bv (tv k).join == Value.none)) = (tv k).join.isSome := by
      show (!(bv (tv k).join == bv none)) = _
      rw [bv_beq]
      cases (tv k).join <;> rfl
    rw [e1]
    cases hj : (tv k).join with
    | none =>
      show wpAny _ _ _ _ _ _
      rw [hj] at P₁
      refine wpAny_execs_nil (rd_turn2 (wv := none) G hh hroom hu hfr C P₁ hk haw (fun D Ol S Gs N r => ?_) neg (by exact mk) (by exact mw) rfl fun h' t' m' P' mk' c' => kk h' t' m' P' mk' (cc h' c'))
      rw [hwk, (wv_pos r hk).2, hj]; rfl
    | some b =>
      rw [if_pos (by rfl)]
      refine isTrue_and_nil ?_
      rw [if_pos rfl]
      rw [hj] at P₁ fm₁
      refine wpAny_execs_cons (wpAny_Assign_Name (wpAny_UnaryOp (n_loc P₁.fm (v := .bool b) (not_of (wpAny_truthy_bool (m_store P₁.fm rfl rfl fun h₂ t₂ fm₂ => ?_))) rfl)))
      have c₂ : Chg [L] h₁ h₂ := fun b o n e => fm₂.ext b o (by simpa using n) e
      have P₂ := P₁.store C c₂ fm₂.here (by exact P.held)
      refine wpAny_execs_nil ((rd_turn2 (wv := some (!b)) G hh hroom hu hfr C P₂ hk haw (fun D Ol S Gs N r => ?_) neg (by exact mk) (by exact mw) rfl fun h' t' m' P' mk' c' => kk h' t' m' P' mk' (cc h' ((c₂.mono fun a ha => by rw [List.mem_singleton] at ha; simp [ha]).trans c'))))
      rw [hwk, (wv_pos r hk).2, hj]; rfl
  · have hwk : wish = k := by
      rcases hw with q | q
      · exact q
      · omega
    rw [decide_eq_false hlt, if_neg (by decide)]
    show wpAny _ _ _ _ _ _
    refine wpAny_execs_nil (rd_turn2 (wv := (tv k).join) G hh hroom hu hfr C P₁ hk haw (fun D Ol S Gs N r => ?_) neg (by exact mk) (by exact mw) rfl fun h' t' m' P' mk' c' => kk h' t' m' P' mk' (cc h' c'))
    rw [hwk]; exact (wv_pos r hk).1
end
end
end Mine
namespace Mine
noncomputable section
noncomputable abbrev outB (w : World) : List Stmt := forB ((bdOf (fdOf (ob186 w).1)).drop 10)
section
variable {w : World} {A : Around} {E : Value → Shared → Prop} {h₀ h h' hb hr : Heap} {L : Addr} {m m' : Str → Option Value} {g : Array GenState} {dr : Drawn} {t : Nat} {os : OsState} {p p' : Ptr} {tv : Int → Option (Option Bool)} {bf : Int → Option Bool} {nf : Int → Bool} {td bd fa ra : Addr} {T B : List (Int × Value)} {env : Env} {outer : List Env} {k wish : Int} {tk tw : Tok} {wv : Option Bool}
/-- the rounds over (key, -key) -/
theorem rd_in {R : Result → Shared → Prop} {I tp : Addr} {vs : List Value} {px : Pos} {hs : Heap} (G : Good0 w h₀) (hh : A.handled = none) (hroom : A.depth + 7 < recursionLimit) (hu : A.units + 100 < cLine) (hfr : A.frames = some (envR w L :: outer)) (C : Ctx w h₀ hr L outer p td T tv) (hk : k ∈ K3)
    (hvs : IntsAre vs [k, -k]) (hI : hr.objs.size ≤ I) (hT : hr.objs.size ≤ tp) (IL : I ≠ L) (tI : tp ≠ I) (tL : tp ≠ L)
    (kk : ∀ h' t' m', Lp w h₀ hr h' L outer p tv bf nf td m' → m' "key" = some (.int k tk) → Chg (I :: L :: frs outer) hs h' → R (.ok .next) ⟨h', g, dr, t', os⟩) :
    ∀ (n i : Nat) (h : Heap) (t : Nat) (m : Str → Option Value), i + n = 2 → Lp w h₀ hr h L outer p tv bf nf td m → m "key" = some (.int k tk) → h.IsTupleIter I tp i → h.IsTuple tp vs.toArray → Chg (I :: L :: frs outer) hs h →
      codeAny (MM w) A (.forLoop (.Name "wish" px) (.ref I) (inB w) [] (envR w L)) R ⟨h, g, dr, t, os⟩ := by
  have nf1 : ∀ b, hr.objs.size ≤ b → b ∉ frs outer := fun b hb q => absurd (C.frlt b q) (Nat.not_lt.mpr hb)
  have hsz : vs.length = 2 := by
    have := hvs.sizeZ
    simp only [List.size_toArray] at this
    have : ([k, -k] : List Int).length = 2 := rfl
    omega
  intro n
  induction n with
  | zero =>
    intro i h t m hi P mk hit htp c
    have : i = 2 := by omega
    subst this
    have hx : vs.toArray[2]? = none := by
      rw [Array.getElem?_eq_none_iff]
      simp only [List.size_toArray]
      omega
    refine f_none (wpAny_pyNext_tuple_end (s := ⟨h, g, dr, t, os⟩) hh hit htp hx fun h₁ x₁ => ⟨rfl, wpAny_execs_nil ?_⟩)
    have c₁ : Chg [I] h h₁ := fun b o n e => x₁ b o (by simpa using n) e
    obtain ⟨o, ho, hc, hd⟩ := hit
    exact kk h₁ t m (P.turn C c₁ hI ho hd) mk (c.trans (c₁.mono fun a ha => by rw [List.mem_singleton] at ha; simp [ha]))
  | succ n ih =>
    intro i h t m hi P mk hit htp c
    have hvi : i < vs.length := by omega
    obtain ⟨wish, tw, hv, hwi⟩ := hvs.at i vs[i] (List.getElem?_eq_getElem hvi)
    have hw : wish = k ∨ wish = -k := by
      have := List.mem_of_getElem? hwi
      simpa using this
    refine f_some (wpAny_pyNext_tuple_item (s := ⟨h, g, dr, t, os⟩) hit htp (x := .int wish tw) (by rw [List.getElem?_toArray, List.getElem?_eq_getElem hvi, hv]) fun h₁ it₁ s₁ => ⟨_, rfl, ?_⟩)
    replace s₁ : Heap.SameBut I h h₁ := s₁
    refine wpAny_of_eq (rfl : letOwnedTupleGo (.Name "wish" px) (.ref I) (.int wish tw) = pure ()) ?_
    have c₁ : Chg [I] h h₁ := Chg.of_same s₁ (by simp)
    have P₁ := (let ⟨o, ho, _, hd⟩ := hit; P.turn C c₁ hI ho hd : Lp w h₀ hr h₁ L outer p tv bf nf td m)
    refine wpAny_assign_Name (m_store P₁.fm rfl rfl fun h₂ t₂ fm₂ => ?_)
    have c₂ : Chg [L] h₁ h₂ := fun b o n e => fm₂.ext b o (by simpa using n) e
    have P₂ := P₁.store C c₂ fm₂.here (by exact P₁.held)
    refine rd_turn (k := k) (tk := tk) (wish := wish) (tw := tw) G hh hroom hu hfr C P₂ hk hw (by exact mk) rfl fun h₃ t₃ m₃ P₃ mk₃ c₃ => ?_
    have c₁₃ : Chg (I :: L :: frs outer) h h₃ := ((c₁.mono fun a ha => by rw [List.mem_singleton] at ha; simp [ha]).trans (c₂.mono fun a ha => by rw [List.mem_singleton] at ha; simp [ha])).trans (c₃.mono fun a ha => List.mem_cons_of_mem _ ha)
    have nI : I ∉ L :: frs outer := fun q => by
      rcases List.mem_cons.mp q with q | q
      · exact IL q
      · exact nf1 _ hI q
    have nT : tp ∉ I :: L :: frs outer := fun q => by
      rcases List.mem_cons.mp q with q | q
      · exact tI q
      · rcases List.mem_cons.mp q with q | q
        · exact tL q
        · exact nf1 _ hT q
    refine ih (i + 1) h₃ t₃ m₃ (by omega) P₃ mk₃ ?_ ?_ (c.trans c₁₃)
    · obtain ⟨o, ho, r⟩ := it₁
      exact ⟨o, c₃ _ _ nI (c₂ _ _ (by simpa using IL) ho), r⟩
    · obtain ⟨o, ho, r⟩ := htp
      exact ⟨o, c₁₃ _ _ nT ho, r⟩
/-- the rounds over (3, 8, 16) -/
theorem rd_out {R : Result → Shared → Prop} {I tp : Addr} {vs : List Value} {px : Pos} (G : Good0 w h₀) (hh : A.handled = none) (hroom : A.depth + 7 < recursionLimit) (hu : A.units + 100 < cLine) (hfr : A.frames = some (envR w L :: outer)) (C : Ctx w h₀ hr L outer p td T tv)
    (hvs : IntsAre vs K3) (hI : hr.objs.size ≤ I) (hT : hr.objs.size ≤ tp) (IL : I ≠ L) (tI : tp ≠ I) (tL : tp ≠ L)
    (kk : ∀ h' t' m', Lp w h₀ hr h' L outer p tv bf nf td m' → R (.ok .next) ⟨h', g, dr, t', os⟩) :
    ∀ (n i : Nat) (h : Heap) (t : Nat) (m : Str → Option Value), i + n = 3 → Lp w h₀ hr h L outer p tv bf nf td m → h.IsTupleIter I tp i → h.IsTuple tp vs.toArray →
      codeAny (MM w) A (.forLoop (.Name "key" px) (.ref I) (outB w) [] (envR w L)) R ⟨h, g, dr, t, os⟩ := by
  have nf1 : ∀ b, hr.objs.size ≤ b → b ∉ frs outer := fun b hb q => absurd (C.frlt b q) (Nat.not_lt.mpr hb)
  have hsz : vs.length = 3 := by
    have := hvs.sizeZ
    simp only [List.size_toArray] at this
    have : K3.length = 3 := rfl
    omega
  intro n
  induction n with
  | zero =>
    intro i h t m hi P hit htp
    have : i = 3 := by omega
    subst this
    have hx : vs.toArray[3]? = none := by
      rw [Array.getElem?_eq_none_iff]
      simp only [List.size_toArray]
      omega
    refine f_none (wpAny_pyNext_tuple_end (s := ⟨h, g, dr, t, os⟩) hh hit htp hx fun h₁ x₁ => ⟨rfl, wpAny_execs_nil ?_⟩)
    have c₁ : Chg [I] h h₁ := fun b o n e => x₁ b o (by simpa using n) e
    obtain ⟨o, ho, hc, hd⟩ := hit
    exact kk h₁ t m (P.turn C c₁ hI ho hd)
  | succ n ih =>
    intro i h t m hi P hit htp
    have hvi : i < vs.length := by omega
    obtain ⟨key, tk, hv, hki⟩ := hvs.at i vs[i] (List.getElem?_eq_getElem hvi)
    have hk3 : key ∈ K3 := List.mem_of_getElem? hki
    refine f_some (wpAny_pyNext_tuple_item (s := ⟨h, g, dr, t, os⟩) hit htp (x := .int key tk) (by rw [List.getElem?_toArray, List.getElem?_eq_getElem hvi, hv]) fun h₁ it₁ s₁ => ⟨_, rfl, ?_⟩)
    replace s₁ : Heap.SameBut I h h₁ := s₁
    refine wpAny_of_eq (rfl : letOwnedTupleGo (.Name "key" px) (.ref I) (.int key tk) = pure ()) ?_
    have c₁ : Chg [I] h h₁ := Chg.of_same s₁ (by simp)
    have P₁ := (let ⟨o, ho, _, hd⟩ := hit; P.turn C c₁ hI ho hd : Lp w h₀ hr h₁ L outer p tv bf nf td m)
    refine wpAny_assign_Name (m_store P₁.fm rfl rfl fun h₂ t₂ fm₂ => ?_)
    have c₂ : Chg [L] h₁ h₂ := fun b o n e => fm₂.ext b o (by simpa using n) e
    have P₂ := P₁.store C c₂ fm₂.here (by exact P₁.held)
    have it₂ : h₂.IsTupleIter I tp (i + 1) := by obtain ⟨o, ho, r⟩ := it₁; exact ⟨o, c₂ _ _ (by simpa using IL) ho, r⟩
    have tp₂ : h₂.IsTuple tp vs.toArray := by obtain ⟨o, ho, r⟩ := htp; exact ⟨o, c₂ _ _ (by simpa using tL) (c₁ _ _ (by simpa using tI) ho), r⟩
    refine wpAny_execs_cons (wpAny_For ?_)
    refine wpAny_Tuple (args_cons (n_loc P₂.fm (v := .int key tk) (args_cons (wpAny_UnaryOp (n_loc P₂.fm (v := .int key tk) (neg_int (args_nil ⟨by rw [sizeLine_eq]; show 2 ≤ _; decide, ?_⟩)))) rfl)) rfl)
    generalize hvs' : [Value.int key _, Value.int (-key) _] = vs'
    have hI' : IntsAre vs' [key, -key] := by rw [← hvs']; exact .cons _ _ (.cons _ _ .nil)
    dsimp only
    have sz₂ : hr.objs.size ≤ h₂.objs.size := Nat.le_trans C.hL (Nat.le_of_lt P₂.fm.ns.lt)
    have Llt : L < h₂.objs.size := P₂.fm.ns.lt
    have Ilt : I < h₂.objs.size := let ⟨_, ho, _⟩ := it₂; Heap.lt_size ho
    have tlt : tp < h₂.objs.size := let ⟨_, ho, _⟩ := tp₂; Heap.lt_size ho
    have k₄ : Keep h₂ (h₂.push { cls := .type "tuple", data := .seq vs'.toArray }) := fun b o e => Heap.get?_push_of_some _ e
    have z₄ : (h₂.push { cls := .type "tuple", data := .seq vs'.toArray }).objs.size = h₂.objs.size + 1 := Heap.size_push ..
    have t₄ : (h₂.push { cls := .type "tuple", data := .seq vs'.toArray }).IsTuple h₂.objs.size vs'.toArray := ⟨_, Heap.get?_push_size _ rfl, rfl, _, rfl⟩
    generalize h₂.push { cls := .type "tuple", data := .seq vs'.toArray } = h₄ at k₄ z₄ t₄ ⊢
    refine wpAny_pyIter_tuple (s := ⟨h₄, g, dr, _, os⟩) t₄ ?_
    have k₅ : Keep h₄ (h₄.push { cls := .type "tuple_iterator", data := .fields #[.ref h₂.objs.size, .int 0 0] }) := fun b o e => Heap.get?_push_of_some _ e
    have it₅ : (h₄.push { cls := .type "tuple_iterator", data := .fields #[.ref h₂.objs.size, .int 0 0] }).IsTupleIter h₄.objs.size h₂.objs.size 0 := ⟨_, Heap.get?_push_size _ rfl, rfl, rfl⟩
    show codeAny _ _ _ _ ⟨h₄.push { cls := .type "tuple_iterator", data := .fields #[.ref h₂.objs.size, .int 0 0] }, g, dr, _, os⟩
    generalize h₄.push { cls := .type "tuple_iterator", data := .fields #[.ref h₂.objs.size, .int 0 0] } = h₅ at k₅ it₅ ⊢
    have P₅ := P₂.keep C (k₄.trans k₅)
    have q1 : hr.objs.size ≤ h₄.objs.size := by omega
    have q2 : h₄.objs.size ≠ L := Nat.ne_of_gt (by rw [z₄]; exact Nat.lt_succ_of_lt Llt)
    have q3 : h₂.objs.size ≠ h₄.objs.size := by omega
    have q4 : h₂.objs.size ≠ L := Nat.ne_of_gt Llt
    refine rd_in (hs := h₅) (I := h₄.objs.size) (tp := h₂.objs.size) (k := key) (tk := tk) G hh hroom hu hfr C hk3 hI' q1 sz₂ q2 q3 q4 ?_ 2 0 h₅ _ _ rfl P₅ rfl it₅ (by obtain ⟨o, ho, r⟩ := t₄; exact ⟨o, k₅ _ _ ho, r⟩) (Chg.refl _ _)
    intro h₆ t₆ m₆ P₆ _ c₆
    refine wpAny_execs_nil (ih (i + 1) h₆ t₆ m₆ (by omega) P₆ ?_ ?_)
    · obtain ⟨o, ho, r⟩ := it₂
      refine ⟨o, c₆ _ _ (fun q => ?_) (k₅ _ _ (k₄ _ _ ho)), r⟩
      rcases List.mem_cons.mp q with q | q
      · exact Nat.ne_of_lt (show I < h₄.objs.size by rw [z₄]; exact Nat.lt_succ_of_lt Ilt) q
      · rcases List.mem_cons.mp q with q | q
        · exact IL q
        · exact nf1 _ hI q
    · obtain ⟨o, ho, r⟩ := tp₂
      refine ⟨o, c₆ _ _ (fun q => ?_) (k₅ _ _ (k₄ _ _ ho)), r⟩
      rcases List.mem_cons.mp q with q | q
      · exact Nat.ne_of_lt (show tp < h₄.objs.size by rw [z₄]; exact Nat.lt_succ_of_lt tlt) q
      · rcases List.mem_cons.mp q with q | q
        · exact tL q
        · exact nf1 _ hT q
end
end
end Mine
namespace Mine
noncomputable section
section
variable {w : World} {A : Around} {E : Value → Shared → Prop} {h₀ h h' hb hr : Heap} {L : Addr} {m m' : Str → Option Value} {g : Array GenState} {dr : Drawn} {t : Nat} {os : OsState} {p p' : Ptr} {tv : Int → Option (Option Bool)} {bf : Int → Option Bool} {nf : Int → Bool} {td bd fa ra : Addr} {T B : List (Int × Value)} {env : Env} {outer : List Env} {Q : Value → Shared → Prop} {vf : List Value} {ns : List Int}
theorem dict_ne2 {a : Addr} {kvs : List (Int × Value)} {D O : List (Int × Value)} {S Gs N : Int → Bool} (hd : h.DictOf (IK w) a kvs) (X : AS w h₀ h p D O S Gs N) (c : Cd h) : a ∉ [81, p.d] := by
  simp only [List.mem_cons, List.not_mem_nil, or_false, not_or]
  exact ⟨dict_no81 hd c, dict_ne_ns (x := "_data") hd X.att.ns rfl⟩
theorem ns_no81 {a : Addr} (hn : h.Ns a m) (c : Cd h) : a ≠ 81 := by
  rintro rfl
  obtain ⟨o, ps, h1, h2⟩ := c.at81
  obtain ⟨_, _, _, g1, g2, _⟩ := hn
  rw [h1] at g1; cases g1; rw [h2] at g2; cases g2
/-- _law_reads answers True -/
theorem reads_ok (G : Good0 w h₀) (kp : Keep h₀ h) (n81 : h₀.get? 81 = none) (hh : A.handled = none) (hroom : A.depth + 8 < recursionLimit) (hu : A.units + 110 < cLine) (hfr : A.frames = some outer) (X : St w h₀ h p tv bf nf) (hc : Cd h) (hT : Told w h td T tv) (hB : Befo w h bd B bf) (hF : Fresh h fa vf ns nf)
    (hcs : ∀ d, p.cv = .ref d → (d == sysModules) = false) (hrow : h.IsList ra #[.ref p.x, .ref td, .ref bd, .ref fa])
    (ff : h.FunFrames {} outer) (frN : ∀ a ∈ frs outer, ∃ m x v, h.Ns a m ∧ m x = some v) (frlow : ∀ a ∈ frs outer, h₀.get? a = none) (frp : ∀ a ∈ p.addrs, a ∉ frs outer)
    (kk : ∀ h' t' g' d, (AllBare g → AllBare g') → (d == sysModules) = false → d ∉ p.addrs → (p.cv = .ref d ∨ h.objs.size ≤ d) → St w h₀ h' { p with cv := .ref d } tv bf nf → Cd h' → Chg (81 :: p.d :: frs outer) h h' →
      (∀ b ∈ frs outer, ∀ o, h.get? b = some o → (∀ vs, o.data ≠ .fields vs) → ∃ sl, h'.get? b = some { o with slots := sl }) → Q (.bool true) ⟨h', g', dr, t', os⟩) :
    wpAny (MM w) A (call (.ref 186) [.ref ra]) Q E ⟨h, g, dr, t, os⟩ := by
  obtain ⟨D, Ol, S, Gs, N, X0, r0, _⟩ := id X
  have tn := dict_ne2 hT.dict X0 hc
  have bn := dict_ne2 hB.dict X0 hc
  have fn := list_ne hF.list X0 hc
  have big := G.size kp
  refine m_callC (binds := [("row", .ref ra)]) G kp (by omega) (fn186 w) (by kernel_rfl) (by kernel_rfl) (fun x hx => by rw [List.mem_singleton] at hx; subst hx; exact .inl (by kernel_rfl)) ?_
  intro h₁ t₁ fm cells
  have k₁ : Keep h h₁ := fm.out (Nat.le_refl _)
  have hd7 : (A.deeper (envR w h.objs.size)).depth + 7 < recursionLimit := by show A.depth + 1 + 7 < _; omega
  have hu3 : (A.deeper (envR w h.objs.size)).units + 100 < cLine := by show A.units + 3 + 100 < _; omega
  have hu4 : (A.deeper (envR w h.objs.size)).units + 40 < cLine := by omega
  have hfr' : (A.deeper (envR w h.objs.size)).frames = some (envR w h.objs.size :: outer) := by show A.frames.map _ = _; rw [hfr]; rfl
  have c₁ : h₁.IsCell (h.objs.size + 1) none := cells "told" (h.objs.size + 1) (by kernel_rfl)
  refine rd_open (A := A.deeper (envR w h.objs.size)) (vf := vf) G hh kp X hc hT hrow fm (Nat.le_refl _) k₁ c₁ ?_
  intro h₂ t₂ m₂ kl pl gl vk vp vg fm₂ e1 e2 e3 e4 e5 e6 c₂ k₂ lk ik lp jp lg ig
  have M₂ : Md w h₀ h h₂ h.objs.size p tv bf nf td bd fa kl pl gl vk vp vg m₂ := ⟨fm₂, e1, e2, e3, e4, e5, e6, c₂, X.keep k₂, hc.keep k₂, Chg.of_keep k₂, lk, ik, lp, jp, lg, ig, Nat.le_refl _, X0.lt _ (by simp), big, n81⟩
  refine rd_keys (A := A.deeper (envR w h.objs.size)) G hh hd7 hu4 M₂ fun h₃ t₃ g₃ b₃ M₃ => ?_
  refine rd_pairs (A := A.deeper (envR w h.objs.size)) G hh hd7 hu4 M₃ hT tn fun h₄ t₄ g₄ b₄ M₄ => ?_
  refine rd_vals (A := A.deeper (envR w h.objs.size)) G hh hd7 hu4 M₄ hT tn fun h₅ t₅ g₅ b₅ M₅ => ?_
  refine rd_asg (A := A.deeper (envR w h.objs.size)) G hh hd7 hu4 M₅ fun h₆ t₆ M₆ => ?_
  refine rd_una (A := A.deeper (envR w h.objs.size)) G hh hd7 hu4 M₆ hT tn fun h₇ t₇ M₇ => ?_
  refine rd_log (A := A.deeper (envR w h.objs.size)) G hh hd7 hu3 M₇ hT tn hB bn hF fn hcs fun h₈ t₈ d sd dn dq M₈ => ?_
  have C : Ctx w h₀ h h.objs.size outer { p with cv := .ref d } td T tv := ⟨kp, Nat.le_refl _, X0.lt, ff, frN, frlow, frp, hT, tn, big, n81⟩
  have P₈ : Lp w h₀ h h₈ h.objs.size outer { p with cv := .ref d } tv bf nf td m₂ := by
    refine ⟨M₈.fm, M₈.held, M₈.cell, M₈.st, M₈.cd, M₈.chg.mono fun a ha => ?_, fun b hb o ho hd => ⟨o.slots, M₈.chg b o ?_ ho⟩⟩
    · simp only [List.mem_cons, List.not_mem_nil, or_false] at ha ⊢
      rcases ha with ha | ha
      · exact .inl ha
      · exact .inr (.inl ha)
    · simp only [List.mem_cons, List.not_mem_nil, or_false, not_or]
      obtain ⟨_, _, _, n, _⟩ := frN b hb
      exact ⟨ns_no81 n hc, fun q => frp p.d (by simp) (by rw [← show b = p.d from q]; exact hb)⟩
  -- the rounds
  refine wpAny_execs_cons (wpAny_For ?_)
  refine wpAny_Tuple (args_cons (wpAny_Constant_int (args_cons (wpAny_Constant_int (args_cons (wpAny_Constant_int (args_nil ⟨by rw [sizeLine_eq]; show 3 ≤ _; decide, ?_⟩)) rfl)) rfl)) rfl)
  generalize hvs' : [Value.int 3 _, Value.int 8 _, Value.int 16 _] = vs'
  have hI' : IntsAre vs' K3 := by rw [← hvs']; exact .cons _ _ (.cons _ _ (.cons _ _ .nil))
  dsimp only
  have Llt : h.objs.size < h₈.objs.size := P₈.fm.ns.lt
  have k₉ : Keep h₈ (h₈.push { cls := .type "tuple", data := .seq vs'.toArray }) := fun b o e => Heap.get?_push_of_some _ e
  have z₉ : (h₈.push { cls := .type "tuple", data := .seq vs'.toArray }).objs.size = h₈.objs.size + 1 := Heap.size_push ..
  have t₉ : (h₈.push { cls := .type "tuple", data := .seq vs'.toArray }).IsTuple h₈.objs.size vs'.toArray := ⟨_, Heap.get?_push_size _ rfl, rfl, _, rfl⟩
  generalize h₈.push { cls := .type "tuple", data := .seq vs'.toArray } = h₉ at k₉ z₉ t₉ ⊢
  refine wpAny_pyIter_tuple (s := ⟨h₉, g₅, dr, _, os⟩) t₉ ?_
  have k₀ : Keep h₉ (h₉.push { cls := .type "tuple_iterator", data := .fields #[.ref h₈.objs.size, .int 0 0] }) := fun b o e => Heap.get?_push_of_some _ e
  have it₀ : (h₉.push { cls := .type "tuple_iterator", data := .fields #[.ref h₈.objs.size, .int 0 0] }).IsTupleIter h₉.objs.size h₈.objs.size 0 := ⟨_, Heap.get?_push_size _ rfl, rfl, rfl⟩
  show codeAny _ _ _ _ ⟨h₉.push { cls := .type "tuple_iterator", data := .fields #[.ref h₈.objs.size, .int 0 0] }, g₅, dr, _, os⟩
  generalize h₉.push { cls := .type "tuple_iterator", data := .fields #[.ref h₈.objs.size, .int 0 0] } = h₁₀ at k₀ it₀ ⊢
  have P₀ := P₈.keep C (k₉.trans k₀)
  have q1 : h.objs.size ≤ h₉.objs.size := by omega
  have q2 : h₉.objs.size ≠ h.objs.size := by omega
  have q3 : h₈.objs.size ≠ h₉.objs.size := by omega
  have q4 : h₈.objs.size ≠ h.objs.size := by omega
  refine rd_out (A := A.deeper (envR w h.objs.size)) (I := h₉.objs.size) (tp := h₈.objs.size) G hh hd7 hu3 hfr' C hI' q1 (Nat.le_of_lt Llt) q2 q3 q4 ?_ 3 0 h₁₀ _ _ rfl P₀ it₀ (by obtain ⟨o, ho, r⟩ := t₉; exact ⟨o, k₀ _ _ ho, r⟩)
  intro h₁₁ t₁₁ m₁₁ P₁₁
  refine wpAny_execs_cons (wpAny_Return_some (Constant_bool ?_))
  exact kk h₁₁ _ g₅ d (fun q => b₅ (b₄ (b₃ q))) sd dn dq P₁₁.st P₁₁.cd P₁₁.chg P₁₁.slots
end
end
end Mine
namespace Mine
noncomputable section
/-- what _law_mixed writes for a key -/
noncomputable def mixE (tv : Int → Option (Option Bool)) (k : Int) : Int × Option Bool := if k = 8 then (8, (tv 8).join) else (-k, (tv k).join.map (!·))
noncomputable abbrev mixL (tv : Int → Option (Option Bool)) (T : List (Int × Value)) : List (Int × Option Bool) := T.map fun x => mixE tv x.1
theorem ab_mix {tv : Int → Option (Option Bool)} {k : Int} (h : k ∈ K3) : ab (mixE tv k).1 = k := by
  unfold mixE
  split
  · rename_i q; subst q; rfl
  · exact ab_npos (k3_pos h)
theorem find_congr {α : Type} {p q : α → Bool} : ∀ {l : List α}, (∀ x ∈ l, p x = q x) → l.find? p = l.find? q
  | [], _ => rfl
  | a :: l, h => by
    rw [List.find?_cons, List.find?_cons, h a (List.mem_cons_self ..), find_congr fun x hx => h x (List.mem_cons_of_mem _ hx)]
theorem mix_tvE {tv : Int → Option (Option Bool)} {T : List (Int × Value)} (hk : ∀ x ∈ T, x.1 ∈ K3) (hv : ∀ k, valueAt T k = (tv k).map bv) : tvE (mixL tv T) = tv := by
  funext k
  unfold tvE mixL
  rw [List.find?_map, find_congr (q := fun x => decide (x.1 = k)) (fun x hx => by
    show (ab (mixE tv x.1).1 == k) = _
    rw [ab_mix (hk x hx)]
    by_cases q : x.1 = k
    · rw [q]; simp
    · rw [decide_eq_false q]; simpa using q)]
  have e := hv k
  unfold valueAt at e
  cases hf : T.find? (fun x => decide (x.1 = k)) with
  | none =>
    rw [hf] at e
    cases ht : tv k with
    | none => rfl
    | some o => rw [ht] at e; cases e
  | some x =>
    have hx : x.1 = k := by have := List.find?_some hf; simpa using this
    have k3 : k ∈ K3 := hx ▸ hk x (List.mem_of_find?_eq_some hf)
    rw [hf] at e
    cases ht : tv k with
    | none => rw [ht] at e; cases e
    | some o =>
      simp only [Option.map_some, hx]
      unfold mixE
      by_cases q : k = 8
      · subst q
        rw [if_pos rfl, ht]
        cases o <;> simp
      · have := k3_pos k3
        have n : ¬ (-k = k) := by omega
        rw [if_neg q, ht]
        cases o <;> simp [n]
theorem mix_nd {tv : Int → Option (Option Bool)} {T : List (Int × Value)} (hk : ∀ x ∈ T, x.1 ∈ K3) (nd : (T.map (·.1)).Nodup) : ((mixL tv T).map fun y => ab y.1).Nodup := by
  have : (mixL tv T).map (fun y => ab y.1) = T.map (·.1) := by
    unfold mixL
    rw [List.map_map]
    exact List.map_congr_left fun x hx => ab_mix (hk x hx)
  rw [this]; exact nd
theorem bvs_snoc (l : List (Int × Option Bool)) (x : Int × Option Bool) : bvs (l ++ [x]) = bvs l ++ [(x.1, bv x.2)] := by simp [bvs]
section
variable {w : World} {A : Around} {E : Value → Shared → Prop} {h₀ h h' hb hr : Heap} {L : Addr} {m m' : Str → Option Value} {g : Array GenState} {dr : Drawn} {t : Nat} {os : OsState} {tv : Int → Option (Option Bool)} {td I d : Addr} {T : List (Int × Value)} {R : Result → Shared → Prop} {Q : Value → Shared → Prop} {ep : Nat}
theorem mx_loop {px : Pos} (G : Good0 w h₀) (hh : A.handled = none) (kr : Keep h₀ hr) (hT : Told w hr td T tv) (hE : hr.DictAt (IK w) td T ep) (fL : hr.objs.size ≤ L) (fd : hr.objs.size ≤ d) (fI : hr.objs.size ≤ I) (dL : d ≠ L) (dI : d ≠ I) (IL : I ≠ L)
    (kk : ∀ h' t' m', Fm h₀ L h' h' m' → m' "given" = some (.ref d) → h'.DictOf (IK w) d (bvs (mixL tv T)) → Keep hr h' → R (.ok .next) ⟨h', g, dr, t', os⟩) :
    ∀ (n i : Nat) (h : Heap) (t : Nat) (m : Str → Option Value), i + n = T.length → Fm h₀ L h h m → m "told" = some (.ref td) → m "given" = some (.ref d) → h.IsKeyIter I td i T.length ep → h.DictOf (IK w) d (bvs (mixL tv (T.take i))) → Keep hr h →
      codeAny (MM w) A (.forLoop (.Name "key" px) (.ref I) (forB ((bdOf (fdOf (ob193 w).1)).drop 1)) [] (envA (ob193 w).1 193 L)) R ⟨h, g, dr, t, os⟩ := by
  have lI : h₀.get? I = none := low_size kr fI
  have ld : h₀.get? d = none := low_size kr fd
  have hT3 : T.length ≤ 3 := by rw [hT.len]; exact kn_len tv
  intro n
  induction n with
  | zero =>
    intro i h t m hi fm e1 e2 hit hd kp
    have : i = T.length := by omega
    subst this
    rw [List.take_length] at hd
    refine f_none (wpAny_pyNext_dict_end (knd := IK w) (s := ⟨h, g, dr, t, os⟩) hh hit (hE.keep kp) (by simp) fun h₁ x₁ => ⟨rfl, wpAny_execs_nil ?_⟩)
    have c₁ : Chg [I] h h₁ := fun b o n e => x₁ b o (by simpa using n) e
    exact kk h₁ t m (fm.chg c₁ (by simpa using Ne.symm IL) (fun b hb => by rw [List.mem_singleton] at hb; subst hb; exact lI)) e2 (DictOf_at hd fun o e => c₁ _ o (by simpa using dI) e) fun b o e => x₁ b o (Nat.ne_of_lt (Nat.lt_of_lt_of_le (Heap.lt_size e) fI)) (kp b o e)
  | succ n ih =>
    intro i h t m hi fm e1 e2 hit hd kp
    have hlt : i < T.length := by omega
    obtain ⟨x, hx⟩ : ∃ x, T[i]? = some x := ⟨_, List.getElem?_eq_getElem hlt⟩
    have hk3 := hT.keys x (List.mem_of_getElem? hx)
    have htk := take_succ' hx
    refine f_some (wpAny_pyNext_dict_item (knd := IK w) (s := ⟨h, g, dr, t, os⟩) hit (hE.keep kp) (k := x.1) (v := x.2) hx fun key h₁ hkey it₁ s₁ => ⟨_, rfl, ?_⟩)
    replace s₁ : Heap.SameBut I h h₁ := s₁
    obtain ⟨tk, rfl⟩ := Value.isInt_shape hkey
    refine letGo_keyiter (s' := ⟨h₁, g, dr, t, os⟩) it₁ ?_
    have fm₁ := fm.turn s₁ IL lI
    refine wpAny_assign_Name (m_store fm₁ rfl rfl fun h₂ t₂ fm₂ => ?_)
    have c₂ : Chg [I, L] h h₂ := fun b o n e => by
      simp only [List.mem_cons, List.not_mem_nil, or_false, not_or] at n
      exact fm₂.ext b o n.2 ((s₁.2 b n.1).trans e)
    have kp₂ : Keep hr h₂ := fun b o e => c₂ b o (by
      simp only [List.mem_cons, List.not_mem_nil, or_false, not_or]
      exact ⟨Nat.ne_of_lt (Nat.lt_of_lt_of_le (Heap.lt_size e) fI), Nat.ne_of_lt (Nat.lt_of_lt_of_le (Heap.lt_size e) fL)⟩) (kp b o e)
    have it₂ : h₂.IsKeyIter I td (i + 1) T.length ep := it₁.at fun o e => fm₂.ext _ o IL e
    have d₂ : h₂.DictOf (IK w) d (bvs (mixL tv (T.take i))) := DictOf_at hd fun o e => c₂ _ o (by simp only [List.mem_cons, List.not_mem_nil, or_false, not_or]; exact ⟨dI, dL⟩) e
    have T₂ := hT.at fun o e => kp₂ _ o e
    have hval : valueAt T x.1 = some (bv (tv x.1).join) := by
      have va : (valueAt T x.1).isSome = true := by
        rw [va_some, List.contains_iff_mem]
        exact List.mem_map.mpr ⟨x, List.mem_of_getElem? hx, rfl⟩
      have hv := hT.val x.1
      cases ht : tv x.1 with
      | none => rw [hv, ht] at va; cases va
      | some o => rw [hv, ht]; rfl
    have hnew : (mixE tv x.1).1 ∉ (bvs (mixL tv (T.take i))).map (·.1) := by
      intro q
      simp only [bvs, mixL, List.map_map, List.mem_map, Function.comp] at q
      obtain ⟨y, hy, e⟩ := q
      have nd : ((T.take (i + 1)).map (·.1)).Nodup := (dict_nd hT.dict).sublist ((List.take_sublist _ _).map _)
      rw [htk, List.map_append] at nd
      have e' := congrArg ab e
      rw [ab_mix (hT.keys y (List.mem_of_mem_take hy)), ab_mix hk3] at e'
      exact (List.nodup_append.mp nd).2.2 _ (List.mem_map.mpr ⟨y, hy, rfl⟩) _ (by simp) e'
    have hl3 : (bvs (mixL tv (T.take i))).length < 1000 := by
      simp only [bvs, mixL, List.length_map, List.length_take]; omega
    -- what follows once the wish is written
    have fin : ∀ h₃ t₃ m₃, Heap.SameBut d h₂ h₃ → h₃.DictOf (IK w) d (stored (bvs (mixL tv (T.take i))) (mixE tv x.1).1 (bv (mixE tv x.1).2)) → Fm h₀ L h₂ h₂ m₃ → m₃ "told" = some (.ref td) → m₃ "given" = some (.ref d) →
        codeAny (MM w) A (.forLoop (.Name "key" px) (.ref I) (forB ((bdOf (fdOf (ob193 w).1)).drop 1)) [] (envA (ob193 w).1 193 L)) R ⟨h₃, g, dr, t₃, os⟩ := by
      intro h₃ t₃ m₃ s₃ d₃ f₃ q1 q2
      rw [stored_new hnew, ← bvs_snoc] at d₃
      refine ih (i + 1) h₃ t₃ m₃ (by omega) (f₃.turn s₃ dL ld) q1 q2 (it₂.at fun o e => (s₃.2 _ (Ne.symm dI)).trans e) ?_ fun b o e => (s₃.2 b (Nat.ne_of_lt (Nat.lt_of_lt_of_le (Heap.lt_size e) fd))).trans (kp₂ b o e)
      rw [htk, show mixL tv (T.take i ++ [x]) = mixL tv (T.take i) ++ [mixE tv x.1] by simp [mixL]]
      exact d₃
    have fm₂' := fm₂.here
    refine wpAny_execs_cons (wpAny_If (wpAny_isTrue_Compare1 (n_loc fm₂' (v := .int x.1 tk) (wpAny_Constant_int (PyProof.Rows.eq_int (wpAny_truthy_bool ?_))))))
    by_cases h8 : x.1 = 8
    · rw [show (x.1 == 8) = true by simpa using h8, if_pos rfl]
      refine wpAny_execs_cons (wpAny_Assign_Subscript (Subscript_ (n_loc fm₂' (v := .ref td) (n_loc fm₂' (v := .int x.1 tk) (d_item (k := x.1) (tk := tk) T₂.dict T₂.sys hval fun t₃ => ?_)) e1)))
      refine n_loc fm₂' (v := .ref d) (n_loc fm₂' (v := .int x.1 tk) (n_setitem (k := x.1) (tk := tk) d₂ hl3 fun h₃ t₄ s₃ d₃ => ?_)) e2
      have e8 : mixE tv x.1 = (x.1, (tv x.1).join) := by unfold mixE; rw [if_pos h8, h8]
      refine wpAny_execs_nil (wpAny_execs_nil (fin h₃ _ _ s₃ (by rw [e8]; exact d₃) fm₂' (by exact e1) (by exact e2)))
    · have e8 : mixE tv x.1 = (-x.1, (tv x.1).join.map (!·)) := by unfold mixE; rw [if_neg h8]
      rw [show (x.1 == 8) = false by simpa using h8, if_neg (by decide)]
      refine wpAny_execs_cons (wpAny_If (wpAny_isTrue_Compare1 (Subscript_ (n_loc fm₂' (v := .ref td) (n_loc fm₂' (v := .int x.1 tk) (d_item (k := x.1) (tk := tk) T₂.dict T₂.sys hval fun t₃ => Constant_none (wpAny_is_plain (bv_plain _ none) (wpAny_truthy_bool ?_)))) e1))))
      cases hj : (tv x.1).join with
      | none =>
        show wpAny _ _ _ _ _ _
        rw [hj] at e8
        refine wpAny_execs_cons (wpAny_Assign_Subscript (Constant_none (n_loc fm₂' (v := .ref d) (wpAny_UnaryOp (n_loc fm₂' (v := .int x.1 tk) (neg_int (n_setitem (k := -x.1) d₂ hl3 fun h₃ t₄ s₃ d₃ => ?_)))) e2)))
        refine wpAny_execs_nil (wpAny_execs_nil (wpAny_execs_nil (fin h₃ _ _ s₃ (by rw [e8]; exact d₃) fm₂' (by exact e1) (by exact e2))))
      | some b =>
        show wpAny _ _ _ _ _ _
        rw [hj] at e8 hval
        refine wpAny_execs_cons (wpAny_Assign_Subscript (wpAny_UnaryOp (Subscript_ (n_loc fm₂' (v := .ref td) (n_loc fm₂' (v := .int x.1 tk) (d_item (k := x.1) (tk := tk) T₂.dict T₂.sys hval fun t₃ => not_of (wpAny_truthy_bool ?_))) e1))))
        refine n_loc fm₂' (v := .ref d) (wpAny_UnaryOp (n_loc fm₂' (v := .int x.1 tk) (neg_int (n_setitem (k := -x.1) d₂ hl3 fun h₃ t₄ s₃ d₃ => ?_)))) e2
        refine wpAny_execs_nil (wpAny_execs_nil (wpAny_execs_nil (fin h₃ _ _ s₃ (by rw [e8]; exact d₃) fm₂' (by exact e1) (by exact e2))))
theorem mixed_ok (G : Good0 w h₀) (k : Keep h₀ h) (hroom : A.depth < recursionLimit) (hh : A.handled = none) (hT : Told w h td T tv)
    (kk : ∀ h' t' d, h.objs.size ≤ d → (d == sysModules) = false → h'.DictOf (IK w) d (bvs (mixL tv T)) → Keep h h' → Q (.ref d) ⟨h', g, dr, t', os⟩) :
    wpAny (MM w) A (call (.ref 193) [.ref td]) Q E ⟨h, g, dr, t, os⟩ := by
  refine m_call (binds := [("told", .ref td)]) G k hroom (fn193 w) (by kernel_rfl) (BindsTo.of_eq (by kernel_rfl)) (by kernel_rfl) ?_
  intro h₁ t₁ fm
  have k₁ : Keep h h₁ := fm.out (Nat.le_refl _)
  obtain ⟨ep, hE⟩ := hT.dict.dictAt
  refine wpAny_execs_cons (wpAny_Assign_Name (wpAny_Dict_empty ?_))
  have d₂ := Heap.DictOf.new (knd := IK w) h₁
  have fm₂ := fm.push { cls := .type "dict", data := .dict #[] }
  have k₂ : Keep h₁ (h₁.push { cls := .type "dict", data := .dict #[] }) := fun b o e => Heap.get?_push_of_some _ e
  show wpAny _ _ _ _ _ ⟨h₁.push { cls := .type "dict", data := .dict #[] }, g, dr, t₁, os⟩
  have z1 : h.objs.size < h₁.objs.size := fm.ns.lt
  generalize h₁.push { cls := .type "dict", data := .dict #[] } = h₂ at d₂ fm₂ k₂ ⊢
  refine m_store fm₂.here rfl rfl fun h₃ t₃ fm₃ => ?_
  have k₃ : Keep h h₃ := fun b o e => fm₃.ext b o (Nat.ne_of_lt (Heap.lt_size e)) (k₂ b o (k₁ b o e))
  have d₃ : h₃.DictOf (IK w) h₁.objs.size [] := DictOf_at d₂ fun o e => fm₃.ext _ o (Nat.ne_of_gt z1) e
  refine wpAny_execs_cons (wpAny_For (n_loc fm₃ (v := .ref td) ?_))
  refine wpAny_pyIter_dict (knd := IK w) (s := ⟨h₃, g, dr, t₃, os⟩) hT.sys (hE.keep k₃) ?_
  have fm₅ := fm₃.here.push { cls := .type "dict_keyiterator", data := .fields #[.ref td, .int 0 0, .int T.length 0, .int ep 0] }
  have k₅ : Keep h₃ (h₃.push { cls := .type "dict_keyiterator", data := .fields #[.ref td, .int 0 0, .int T.length 0, .int ep 0] }) := fun b o e => Heap.get?_push_of_some _ e
  have it₅ : (h₃.push { cls := .type "dict_keyiterator", data := .fields #[.ref td, .int 0 0, .int T.length 0, .int ep 0] }).IsKeyIter h₃.objs.size td 0 T.length ep := ⟨_, Heap.get?_push_size _ rfl, rfl, rfl⟩
  show codeAny _ _ _ _ ⟨h₃.push { cls := .type "dict_keyiterator", data := .fields #[.ref td, .int 0 0, .int T.length 0, .int ep 0] }, g, dr, _, os⟩
  generalize h₃.push { cls := .type "dict_keyiterator", data := .fields #[.ref td, .int 0 0, .int T.length 0, .int ep 0] } = h₅ at fm₅ k₅ it₅ ⊢
  have zd : h₁.objs.size < h₃.objs.size := let ⟨_, _, _, ho, _⟩ := d₃; Heap.lt_size ho
  have zL : h.objs.size < h₃.objs.size := fm₃.ns.lt
  refine mx_loop (A := A.deeper (envA (ob193 w).1 193 h.objs.size)) (hr := h) (L := h.objs.size) (d := h₁.objs.size) (I := h₃.objs.size) G hh k hT hE (Nat.le_refl _) (Nat.le_of_lt z1) (Nat.le_of_lt zL) (Nat.ne_of_gt z1) (Nat.ne_of_lt zd) (Nat.ne_of_gt zL) ?_ T.length 0 h₅ _ _ (by omega) fm₅.here rfl rfl it₅ (DictOf_at d₃ fun o e => k₅ _ o e) (k₃.trans k₅)
  intro h₆ t₆ m₆ fm₆ e6 dd k₆
  refine wpAny_execs_cons (wpAny_Return_some (n_loc fm₆ (v := .ref h₁.objs.size) ?_ e6))
  exact kk h₆ t₆ _ (Nat.le_of_lt z1) (G.sys k (Nat.le_of_lt z1)) dd k₆
end
end
end Mine
namespace Mine
noncomputable section
noncomputable def ob203 (w : World) : { o : Obj // (KK w).lookup 203 = some o } := ⟨_, rfl⟩
theorem fn203 (w : World) : FnIs w 203 (ob203 w).1 := ⟨(ob203 w).2, by kernel_rfl, by kernel_rfl, by kernel_rfl, by kernel_rfl, by kernel_rfl, by kernel_rfl⟩
noncomputable abbrev envL (w : World) (L : Addr) : Env := envC (ob203 w).1 203 L
theorem g_reads (w : World) : nsIn (KK w) mainGlobals "_law_reads" = some (some (.ref 186)) := by kernel_rfl
theorem g_mixed (w : World) : nsIn (KK w) mainGlobals "_law_mixed" = some (some (.ref 193)) := by kernel_rfl
theorem g_bare (w : World) : nsIn (KK w) mainGlobals "_law_bare" = some (some (.ref 198)) := by kernel_rfl
theorem g_class (w : World) : nsIn (KK w) mainGlobals "AssignmentSet" = some (some (.ref 170)) := by kernel_rfl
theorem without_none {kvs : List (Int × Value)} {k : Int} (hv : valueAt kvs k = none) : without kvs k = kvs := by
  unfold without
  rw [List.filter_eq_self]
  intro x hx
  unfold valueAt at hv
  rw [Option.map_eq_none_iff, List.find?_eq_none] at hv
  have := hv x hx
  simpa using this
section
variable {w : World} {A : Around} {E : Value → Shared → Prop} {h₀ h hb : Heap} {L : Addr} {m : Str → Option Value} {g : Array GenState} {dr : Drawn} {t : Nat} {os : OsState} {Q : Value → Shared → Prop} {env : Env}
/-- d.pop(k, None) -/
theorem n_pop {a : Addr} {kvs : List (Int × Value)} {k : Int} {tk : Tok} (hd : h.DictOf (IK w) a kvs) (hs : (a == sysModules) = false) (hz : kvs.length < 1000)
    (kk : ∀ v h' t', Heap.SameBut a h h' → h'.DictOf (IK w) a (without kvs k) → Q v ⟨h', g, dr, t', os⟩) : wpAny (MM w) A (call (.builtin "dict.pop") [.ref a, .int k tk, .none]) Q E ⟨h, g, dr, t, os⟩ := by
  cases hv : valueAt kvs k with
  | none =>
    refine call_meetsIn (s := ⟨h, g, dr, t, os⟩) F.slot_dict_pop hd.typeIs F.entry_dict_pop (F.args_dict_pop_3 _ _ _) (meets_dict_pop_default (IK w) a (intKind_is PR w k tk) hs rfl .none) ⟨kvs, hd, hv, ?_⟩
    exact kk _ h _ (Heap.SameBut.refl _ _) (by rw [without_none hv]; exact hd)
  | some v =>
    exact call_meetsIn (s := ⟨h, g, dr, t, os⟩) F.slot_dict_pop hd.typeIs F.entry_dict_pop (F.args_dict_pop_3 _ _ _) (meets_dict_pop_there (IK w) a (intKind_is PR w k tk) [.none] (.inr ⟨_, rfl⟩) rfl) ⟨kvs, v, hd, by rw [sizeLine_eq]; omega, hv, fun h' d' s' => kk _ h' _ s' d'⟩
/-- k not in dict -/
theorem d_notin {a : Addr} {kvs : List (Int × Value)} {k : Int} {tk : Tok} (hd : h.DictOf (IK w) a kvs) (lo : (a == sysModules) = false) (kk : ∀ t', Q (.bool (!(valueAt kvs k).isSome)) ⟨h, g, dr, t', os⟩) :
    wpAny (MM w) A (compareOp .NotIn (.int k tk) (.ref a)) Q E ⟨h, g, dr, t, os⟩ := wpAny_notIn_of (knd := IK w) (s := ⟨h, g, dr, t, os⟩) (intKind_is PR w k tk) lo hd.mapOf (kk _)
/-- list + list -/
theorem n_concat {l b : Addr} {vs ws : List Value} (hl : h.IsList l vs.toArray) (hb : h.IsList b ws.toArray) (hz : vs.length + ws.length < 1000)
    (kk : ∀ h', Keep h h' → h.objs.size < h'.objs.size → h'.IsList h.objs.size (vs ++ ws).toArray → Q (.ref h.objs.size) ⟨h', g, dr, t, os⟩) : wpAny (MM w) A (binaryOp .Add (.ref l) (.ref b)) Q E ⟨h, g, dr, t, os⟩ := by
  obtain ⟨⟨c1, d1, da1, sl1⟩, ho, hc, n, hd⟩ := id hl
  obtain ⟨⟨c2, d2, da2, sl2⟩, ho2, hc2, n2, hd2⟩ := id hb
  cases hc; cases hd; cases hc2; cases hd2
  refine concat_meets (s := ⟨h, g, dr, t, os⟩) ⟨_, ho, rfl⟩ ⟨_, ho2, rfl⟩ noFill_list_add seq_list_add F.slot_list_add F.entry_list_add (F.args_list_add_2 _ _) (list_addW l b vs.toArray ws.toArray n n2 d1 d2 sl1 sl2 (by simp only [List.size_toArray]; rw [sizeLine_eq]; omega)) ⟨ho, ho2, ?_⟩
  rw [List.append_toArray]
  exact kk _ (fun b o e => Heap.get?_push_of_some _ e) (by rw [Heap.size_push]; exact Nat.lt_succ_self _) ⟨_, Heap.get?_push_size _ rfl, rfl, _, rfl⟩
/-- l[lo:hi] of a list -/
theorem n_slice {value slice : Expr} {l : Addr} {items : Array Value} {vl vu : Value} {lo hi : Option Int} (hl : h.IsList l items) (pl : IsPart vl lo) (pu : IsPart vu hi) (hz : items.size < 1000)
    (kk : ∀ h', Keep h h' → h.objs.size + 1 < h'.objs.size → h'.PlainList (h.objs.size + 1) (slicePick items lo hi none) → Q (.ref (h.objs.size + 1)) ⟨h', g, dr, t, os⟩)
    (hs : subscripted slice false (.ref l) (.ref h.objs.size) = operate [.ref h.objs.size, .ref l] (getItem (.ref l) (.ref h.objs.size)) := by with_unfolding_all rfl)
    (ht : ∀ r, letTemporaryGo value (.ref l) r = pure () := by intro _; with_unfolding_all rfl) :
    wpAny (MM w) A (subscriptTail value slice (.ref l) (.ref h.objs.size)) Q E ⟨h.push { cls := .type "slice", data := .fields #[vl, vu, .none] }, g, dr, t, os⟩ := by
  refine subscriptTail_ops (Heap.IsList.typeIs (s := ⟨h.push { cls := .type "slice", data := .fields #[vl, vu, .none] }, g, dr, t, os⟩) (hl.push _)) list_getitem_lookup
    (wpAny_getItem_list_slice (s := ⟨h.push { cls := .type "slice", data := .fields #[vl, vu, .none] }, g, dr, t, os⟩) (hl.push _) (Heap.IsSliceOf.new ..) pl pu .none (by simp) ?_ (by rw [sizeLine_eq]; omega)) hs ht
  show Q (.ref (h.push { cls := .type "slice", data := .fields #[vl, vu, .none] }).objs.size) _
  have hz2 : (h.push { cls := .type "slice", data := .fields #[vl, vu, .none] }).objs.size = h.objs.size + 1 := Heap.size_push ..
  have := Heap.get?_push_size (h.push { cls := .type "slice", data := .fields #[vl, vu, .none] }) (o := { cls := .type "list", data := .seq (slicePick items lo hi none) }) rfl
  rw [hz2] at this ⊢
  refine kk _ (fun b o e => Heap.get?_push_of_some _ (Heap.get?_push_of_some _ e)) ?_ ⟨_, this⟩
  show _ < (Heap.push _ _).objs.size
  rw [Heap.size_push, hz2]
  exact Nat.lt_succ_self _
end
end
end Mine
namespace Mine
noncomputable section
/-- a row of the law: a set, and the plain dicts and the list beside it -/
structure Row where
  r : Addr
  p : Ptr
  td : Addr
  bd : Addr
  fa : Addr
  T : List (Int × Value)
  B : List (Int × Value)
  vf : List Value
  ns : List Int
  tv : Int → Option (Option Bool)
  bf : Int → Option Bool
  nf : Int → Bool
noncomputable def cvL : Value → List Addr
  | .ref d => [d]
  | _ => []
theorem mem_cvL {v : Value} {a : Addr} : a ∈ cvL v ↔ v = .ref a := by
  cases v <;> simp [cvL, eq_comm]
noncomputable abbrev Row.own (x : Row) : List Addr := x.td :: x.fa :: x.p.addrs
noncomputable abbrev Row.ro (x : Row) : List Addr := x.r :: x.bd :: cvL x.p.cv
structure RowOk (w : World) (h₀ h : Heap) (x : Row) : Prop where
  st : St w h₀ h x.p x.tv x.bf x.nf
  told : Told w h x.td x.T x.tv
  befo : Befo w h x.bd x.B x.bf
  fresh : Fresh h x.fa x.vf x.ns x.nf
  fap : h.PlainList x.fa x.vf.toArray
  list : h.IsList x.r #[.ref x.p.x, .ref x.td, .ref x.bd, .ref x.fa]
  cvs : ∀ d, x.p.cv = .ref d → (d == sysModules) = false
  nd : x.own.Nodup
  low : ∀ a ∈ x.own, h₀.get? a = none
  sep : ∀ a ∈ x.ro, a ∉ x.own
/-- a log handed out, and the law's own -/
structure LogE where
  T : Addr
  d : Addr
  d' : Addr
structure LogOk (w : World) (h : Heap) (e : LogE) : Prop where
  tup : h.get? e.T = some (tup2 (.ref e.d) (.ref e.d'))
  eq : ∃ L₁ L₂ tv bf, LogAt w h e.d L₁ ∧ LogAt w h e.d' L₂ ∧ IsLog L₁ tv bf ∧ IsLog L₂ tv bf
  sys : (e.d == sysModules) = false
  sys' : (e.d' == sysModules) = false
section
variable {w : World} {h₀ h h' : Heap} {x y : Row} {l : List Addr} {e : LogE} {p : Ptr} {tv : Int → Option (Option Bool)} {bf : Int → Option Bool} {nf : Int → Bool}
theorem Befo.at {a : Addr} {B : List (Int × Value)} (x : Befo w h a B bf) (k : ∀ o, h.get? a = some o → h'.get? a = some o) : Befo w h' a B bf := ⟨DictOf_at x.dict k, x.keys, x.val, x.sys⟩
theorem Fresh.at {a : Addr} {vf : List Value} {ns : List Int} (x : Fresh h a vf ns nf) (k : ∀ o, h.get? a = some o → h'.get? a = some o) : Fresh h' a vf ns nf := ⟨x.list.at k, x.isI, x.nd, x.keys, x.val⟩
theorem RowOk.chg (R : RowOk w h₀ h x) (c : Chg l h h') (nt : ∀ a ∈ l, ∀ u v, h.get? a ≠ some (tup2 u v)) (n1 : ∀ a ∈ x.own, a ∉ l) (n2 : ∀ a ∈ x.ro, a ∉ l) : RowOk w h₀ h' x where
  st := R.st.chg c nt (fun a ha => n1 a (by simp only [Row.own, List.mem_cons]; exact .inr (.inr (by simpa using ha)))) fun d e => n2 d (by simp only [Row.ro, List.mem_cons]; exact .inr (.inr (mem_cvL.mpr e)))
  told := R.told.at fun o e => c _ o (n1 _ (by simp)) e
  befo := R.befo.at fun o e => c _ o (n2 _ (by simp)) e
  fresh := R.fresh.at fun o e => c _ o (n1 _ (by simp)) e
  fap := R.fap.at fun o e => c _ o (n1 _ (by simp)) e
  list := R.list.at fun o e => c _ o (n2 _ (by simp)) e
  cvs := R.cvs
  nd := R.nd
  low := R.low
  sep := R.sep
theorem LogOk.chg (R : LogOk w h e) (c : Chg l h h') (nt : ∀ a ∈ l, ∀ u v, h.get? a ≠ some (tup2 u v)) (n1 : e.d ∉ l) (n2 : e.d' ∉ l) : LogOk w h' e where
  tup := c _ _ (fun q => nt _ q _ _ R.tup) R.tup
  eq := let ⟨L₁, L₂, tv, bf, a, b, i, j⟩ := R.eq; ⟨L₁, L₂, tv, bf, a.chg c n1 nt, b.chg c n2 nt, i, j⟩
  sys := R.sys
  sys' := R.sys'
theorem St.live (X : St w h₀ h p tv bf nf) : ∀ a ∈ p.addrs, ∃ o, h.get? a = some o := by
  obtain ⟨_, _, _, _, _, x, _, _⟩ := X
  intro a ha
  simp only [Ptr.addrs, List.mem_cons, List.not_mem_nil, or_false] at ha
  rcases ha with rfl | rfl | rfl | rfl | rfl | rfl | rfl
  · exact ⟨_, x.inst⟩
  · exact let ⟨o, _, _, ho, _⟩ := x.att; ⟨o, ho⟩
  · exact let ⟨o, _, _, ho, _⟩ := x.data; ⟨o, ho⟩
  · exact let ⟨o, _, _, ho, _⟩ := x.orig; ⟨o, ho⟩
  · exact let ⟨o, _, _, _, _, _, ho, _⟩ := x.seen; ⟨o, ho⟩
  · exact let ⟨o, _, _, _, _, _, ho, _⟩ := x.asg; ⟨o, ho⟩
  · exact let ⟨o, _, _, _, _, _, ho, _⟩ := x.newk; ⟨o, ho⟩
theorem list_live {a : Addr} {xs : Array Value} (hl : h.IsList a xs) : ∃ o, h.get? a = some o := let ⟨o, ho, _⟩ := hl; ⟨o, ho⟩
theorem dict_live {a : Addr} {kvs : List (Int × Value)} (hl : h.DictOf (IK w) a kvs) : ∃ o, h.get? a = some o := let ⟨o, _, _, ho, _⟩ := hl; ⟨o, ho⟩
theorem list_notup {a : Addr} {xs : Array Value} (hl : h.IsList a xs) : ∀ u v, h.get? a ≠ some (tup2 u v) := fun u v e => by
  obtain ⟨o, ho, hc, _⟩ := hl
  exact ne_cls e ho rfl hc (by decide) rfl
theorem dict_notup {a : Addr} {kvs : List (Int × Value)} (hl : h.DictOf (IK w) a kvs) : ∀ u v, h.get? a ≠ some (tup2 u v) := fun u v e => by
  obtain ⟨o, _, _, ho, hc, _⟩ := hl
  exact ne_cls e ho rfl hc.1 (by decide) rfl
theorem ns_notup {a : Addr} {m : Str → Option Value} (hn : h.Ns a m) : ∀ u v, h.get? a ≠ some (tup2 u v) := fun u v e => by
  obtain ⟨_, _, _, ho, hd, _⟩ := hn
  rw [ho] at e; cases e; cases hd
theorem cell_notup {a : Addr} {c : Option Value} (hn : h.IsCell a c) : ∀ u v, h.get? a ≠ some (tup2 u v) := fun u v e => by
  obtain ⟨_, ho, hd⟩ := hn
  rw [ho] at e; cases e; cases hd
theorem RowOk.live (R : RowOk w h₀ h x) : ∀ a ∈ x.own, ∃ o, h.get? a = some o := by
  intro a ha
  rcases List.mem_cons.mp ha with rfl | ha
  · exact dict_live R.told.dict
  · rcases List.mem_cons.mp ha with rfl | ha
    · exact list_live R.fresh.list
    · exact R.st.live a ha
theorem RowOk.notup (R : RowOk w h₀ h x) : ∀ a ∈ x.own, ∀ u v, h.get? a ≠ some (tup2 u v) := by
  intro a ha
  rcases List.mem_cons.mp ha with rfl | ha
  · exact dict_notup R.told.dict
  · rcases List.mem_cons.mp ha with rfl | ha
    · exact list_notup R.fresh.list
    · exact R.st.notup a ha
theorem St.cvlog (X : St w h₀ h p tv bf nf) {d : Addr} (e : p.cv = .ref d) : ∃ L, LogAt w h d L := by
  obtain ⟨_, _, _, _, _, _, _, c⟩ := X
  rcases c with c | ⟨d', c, _, lg⟩
  · rw [c] at e; cases e
  · rw [c] at e; injection e with e; subst e; exact ⟨_, lg⟩
theorem RowOk.rlive (R : RowOk w h₀ h x) : ∀ a ∈ x.ro, ∃ o, h.get? a = some o := by
  intro a ha
  rcases List.mem_cons.mp ha with rfl | ha
  · exact list_live R.list
  · rcases List.mem_cons.mp ha with rfl | ha
    · exact dict_live R.befo.dict
    · obtain ⟨_, _, dd, _⟩ := R.st.cvlog (mem_cvL.mp ha)
      exact dict_live dd
theorem RowOk.rofields (R : RowOk w h₀ h x) : ∀ a ∈ x.ro, ∀ o fs, h.get? a = some o → o.data ≠ .fields fs := by
  intro a ha o fs e q
  rcases List.mem_cons.mp ha with rfl | ha
  · obtain ⟨o', ho', _, n, hd'⟩ := R.list
    rw [e] at ho'; cases ho'; rw [q] at hd'; cases hd'
  · have dd : ∃ kvs, h.DictOf (IK w) a kvs := by
      rcases List.mem_cons.mp ha with rfl | ha
      · exact ⟨_, R.befo.dict⟩
      · obtain ⟨_, _, dd, _⟩ := R.st.cvlog (mem_cvL.mp ha)
        exact ⟨_, dd⟩
    obtain ⟨_, o', es, ep, ho', _, hd', _⟩ := dd
    rw [e] at ho'; cases ho'; rw [q] at hd'; cases hd'
end
noncomputable abbrev base (L RA LA : Addr) : List Addr := [81, L, L + 1, L + 2, RA, LA]
/-- what the law holds between its steps -/
structure LawI (w : World) (h₀ h : Heap) (L RA LA : Addr) (ex : List Addr) (rows : List Row) (logs : List LogE) (m : Str → Option Value) : Prop where
  fm : Fm h₀ L h h m
  mr : m "rows" = some (.ref RA)
  ml : m "logs" = some (.ref LA)
  c1 : ∃ v, h.IsCell (L + 1) v
  c2 : ∃ v, h.IsCell (L + 2) v
  cd : Cd h
  lr : h.PlainList RA (rows.map fun x => Value.ref x.r).toArray
  ll : h.PlainList LA (logs.map fun e => Value.ref e.T).toArray
  row : ∀ x ∈ rows, RowOk w h₀ h x
  log : ∀ e ∈ logs, LogOk w h e
  oo : ∀ (i j : Nat) (x y : Row), rows[i]? = some x → rows[j]? = some y → i ≠ j → ∀ a ∈ x.own, a ∉ y.own
  ob : ∀ x ∈ rows, ∀ a ∈ x.own, a ∉ base L RA LA
  ro : ∀ x ∈ rows, ∀ a ∈ x.ro, a ∉ base L RA LA ∧ ∀ y ∈ rows, a ∉ y.own
  lo : ∀ e ∈ logs, ∀ a ∈ [e.d, e.d'], a ∉ base L RA LA ∧ ∀ y ∈ rows, a ∉ y.own
  exs : ∀ a ∈ ex, a ∉ base L RA LA ∧ ∀ y ∈ rows, a ∉ y.own
  exl : ∀ a ∈ ex, ∃ o, h.get? a = some o
  bn : (base L RA LA).Nodup
  low : ∀ a ∈ base L RA LA, h₀.get? a = none
  n1 : 1 ≤ rows.length
  n3 : rows.length ≤ 3
noncomputable def Hold (ex : List Addr) (h h' : Heap) : Prop := ∀ a ∈ ex, ∀ o, h.get? a = some o → h'.get? a = some o
theorem Hold.refl (ex : List Addr) (h : Heap) : Hold ex h h := fun _ _ _ e => e
theorem Hold.trans {ex : List Addr} {a b c : Heap} (x : Hold ex a b) (y : Hold ex b c) : Hold ex a c := fun q hq o e => y q hq o (x q hq o e)
section
variable {w : World} {h₀ h h' : Heap} {x y : Row} {l ex : List Addr} {L RA LA : Addr} {rows rows' : List Row} {logs logs' : List LogE} {m m' : Str → Option Value} {j : Nat}
theorem LawI.blive (V : LawI w h₀ h L RA LA ex rows logs m) : ∀ a ∈ base L RA LA, ∃ o, h.get? a = some o := by
  intro a ha
  simp only [base, List.mem_cons, List.not_mem_nil, or_false] at ha
  rcases ha with rfl | rfl | rfl | rfl | rfl | rfl
  · obtain ⟨o, _, ho, _⟩ := V.cd.at81; exact ⟨o, ho⟩
  · obtain ⟨o, _, _, ho, _⟩ := V.fm.ns; exact ⟨o, ho⟩
  · obtain ⟨_, o, ho, _⟩ := V.c1; exact ⟨o, ho⟩
  · obtain ⟨_, o, ho, _⟩ := V.c2; exact ⟨o, ho⟩
  · exact list_live V.lr.isList
  · exact list_live V.ll.isList
theorem LawI.bnotup (V : LawI w h₀ h L RA LA ex rows logs m) : ∀ a ∈ base L RA LA, ∀ u v, h.get? a ≠ some (tup2 u v) := by
  intro a ha
  simp only [base, List.mem_cons, List.not_mem_nil, or_false] at ha
  rcases ha with rfl | rfl | rfl | rfl | rfl | rfl
  · exact V.cd.notup 81 (by simp)
  · exact ns_notup V.fm.ns
  · obtain ⟨_, c⟩ := V.c1; exact cell_notup c
  · obtain ⟨_, c⟩ := V.c2; exact cell_notup c
  · exact list_notup V.lr.isList
  · exact list_notup V.ll.isList
/-- only what is at the base turns -/
theorem LawI.onb (V : LawI w h₀ h L RA LA ex rows logs m) (c : Chg l h h') (hl : ∀ a ∈ l, a ∈ base L RA LA) (fm' : Fm h₀ L h' h' m') (mr' : m' "rows" = some (.ref RA)) (ml' : m' "logs" = some (.ref LA))
    (c1' : ∃ v, h'.IsCell (L + 1) v) (c2' : ∃ v, h'.IsCell (L + 2) v) (cd' : Cd h') (lr' : h'.PlainList RA (rows.map fun x => Value.ref x.r).toArray) (ll' : h'.PlainList LA (logs.map fun e => Value.ref e.T).toArray) : LawI w h₀ h' L RA LA ex rows logs m' where
  fm := fm'
  mr := mr'
  ml := ml'
  c1 := c1'
  c2 := c2'
  cd := cd'
  lr := lr'
  ll := ll'
  row := fun x hx => (V.row x hx).chg c (fun a ha => V.bnotup a (hl a ha)) (fun a ha q => V.ob x hx a ha (hl a q)) fun a ha q => (V.ro x hx a ha).1 (hl a q)
  log := fun e he => (V.log e he).chg c (fun a ha => V.bnotup a (hl a ha)) (fun q => (V.lo e he e.d (by simp)).1 (hl _ q)) fun q => (V.lo e he e.d' (by simp)).1 (hl _ q)
  oo := V.oo
  ob := V.ob
  ro := V.ro
  lo := V.lo
  exs := V.exs
  exl := fun a ha => let ⟨o, ho⟩ := V.exl a ha; ⟨o, c a o (fun q => (V.exs a ha).1 (hl a q)) ho⟩
  bn := V.bn
  low := V.low
  n1 := V.n1
  n3 := V.n3
theorem LawI.hold (V : LawI w h₀ h L RA LA ex rows logs m) (c : Chg l h h') (hl : ∀ a ∈ l, a ∈ base L RA LA ∨ ∃ x, x ∈ rows ∧ a ∈ x.own) : Hold ex h h' := fun a ha o e => c a o (fun q => by
  rcases hl a q with q | ⟨x, hx, q⟩
  · exact (V.exs a ha).1 q
  · exact (V.exs a ha).2 x hx q) e
theorem LawI.bne (V : LawI w h₀ h L RA LA ex rows logs m) : (81 ≠ L ∧ 81 ≠ L + 1 ∧ 81 ≠ L + 2 ∧ 81 ≠ RA ∧ 81 ≠ LA) ∧ (RA ≠ L ∧ RA ≠ L + 1 ∧ RA ≠ L + 2) ∧ (LA ≠ L ∧ LA ≠ L + 1 ∧ LA ≠ L + 2) ∧ RA ≠ LA := by
  have := V.bn
  simp only [base, List.nodup_cons, List.mem_cons, List.not_mem_nil, or_false, not_or] at this
  obtain ⟨⟨a1, a2, a3, a4, a5⟩, ⟨b1, b2, b3, b4⟩, ⟨d1, d2, d3⟩, ⟨e1, e2⟩, f1, -⟩ := this
  exact ⟨⟨a1, a2, a3, a4, a5⟩, ⟨Ne.symm b3, Ne.symm d2, Ne.symm e1⟩, ⟨Ne.symm b4, Ne.symm d3, Ne.symm e2⟩, f1⟩
theorem list_chg {a : Addr} {xs : Array Value} (hl : h.PlainList a xs) (c : Chg l h h') (n : a ∉ l) : h'.PlainList a xs := hl.at fun o e => c a o n e
theorem cell_chg {a : Addr} (hl : ∃ v, h.IsCell a v) (c : Chg l h h') (n : a ∉ l) : ∃ v, h'.IsCell a v := let ⟨v, o, ho, hd⟩ := hl; ⟨v, o, c a o n ho, hd⟩
theorem LawI.keep (V : LawI w h₀ h L RA LA ex rows logs m) (k : Keep h h') : LawI w h₀ h' L RA LA ex rows logs m :=
  V.onb (l := []) (Chg.of_keep k) (fun a ha => nomatch ha) (V.fm.keep k).here V.mr V.ml (cell_chg V.c1 (Chg.of_keep (l := []) k) (by simp)) (cell_chg V.c2 (Chg.of_keep (l := []) k) (by simp)) (V.cd.keep k) (list_chg V.lr (Chg.of_keep (l := []) k) (by simp)) (list_chg V.ll (Chg.of_keep (l := []) k) (by simp))
theorem LawI.store (V : LawI w h₀ h L RA LA ex rows logs m) (c : Chg [L] h h') (fm' : Fm h₀ L h' h' m') (mr' : m' "rows" = some (.ref RA)) (ml' : m' "logs" = some (.ref LA)) (cd85 : L ≠ 85 := by first | assumption | omega) : LawI w h₀ h' L RA LA ex rows logs m' := by
  obtain ⟨⟨a1, a2, a3, a4, a5⟩, ⟨b1, b2, b3⟩, ⟨d1, d2, d3⟩, f⟩ := V.bne
  exact V.onb c (fun a ha => by rw [List.mem_singleton] at ha; simp [ha]) fm' mr' ml' (cell_chg V.c1 c (by simp)) (cell_chg V.c2 c (by simp)) (V.cd.chg c (by simpa using a1) (by simpa using Ne.symm cd85)) (list_chg V.lr c (by simpa using b1)) (list_chg V.ll c (by simpa using d1))
theorem LawI.l85 (V : LawI w h₀ h L RA LA ex rows logs m) (G : Good0 w h₀) : ∀ a ∈ base L RA LA, a ≠ 85 := fun a ha q => by
  have := V.low a ha
  rw [q, G.X 85 _ rfl] at this
  cases this
theorem LawI.c81 (V : LawI w h₀ h L RA LA ex rows logs m) (c : Chg [81] h h') (cd' : Cd h') : LawI w h₀ h' L RA LA ex rows logs m := by
  obtain ⟨⟨a1, a2, a3, a4, a5⟩, ⟨b1, b2, b3⟩, ⟨d1, d2, d3⟩, f⟩ := V.bne
  refine V.onb c (fun a ha => by rw [List.mem_singleton] at ha; simp [ha]) (V.fm.chg c (by simpa using Ne.symm a1) fun a ha => by rw [List.mem_singleton] at ha; subst ha; exact V.low 81 (by simp)) V.mr V.ml (cell_chg V.c1 c (by simpa using Ne.symm a2)) (cell_chg V.c2 c (by simpa using Ne.symm a3)) cd' (list_chg V.lr c (by simpa using Ne.symm a4)) (list_chg V.ll c (by simpa using Ne.symm a5))
theorem LawI.cell1 {v : Option Value} (V : LawI w h₀ h L RA LA ex rows logs m) (G : Good0 w h₀) (s : Heap.SameBut (L + 1) h h') (c' : h'.IsCell (L + 1) v) : LawI w h₀ h' L RA LA ex rows logs m := by
  obtain ⟨⟨a1, a2, a3, a4, a5⟩, ⟨b1, b2, b3⟩, ⟨d1, d2, d3⟩, f⟩ := V.bne
  have c : Chg [L + 1] h h' := Chg.of_same s (by simp)
  exact V.onb c (fun a ha => by rw [List.mem_singleton] at ha; simp [ha]) (V.fm.turn s (Nat.succ_ne_self _) (V.low _ (by simp))) V.mr V.ml ⟨v, c'⟩ (cell_chg V.c2 c (by simp)) (V.cd.chg c (by simpa using a2) (by simpa using Ne.symm (V.l85 G (L + 1) (by simp)))) (list_chg V.lr c (by simpa using b2)) (list_chg V.ll c (by simpa using d2))
theorem LawI.cell2 {v : Option Value} (V : LawI w h₀ h L RA LA ex rows logs m) (G : Good0 w h₀) (s : Heap.SameBut (L + 2) h h') (c' : h'.IsCell (L + 2) v) : LawI w h₀ h' L RA LA ex rows logs m := by
  obtain ⟨⟨a1, a2, a3, a4, a5⟩, ⟨b1, b2, b3⟩, ⟨d1, d2, d3⟩, f⟩ := V.bne
  have c : Chg [L + 2] h h' := Chg.of_same s (by simp)
  exact V.onb c (fun a ha => by rw [List.mem_singleton] at ha; simp [ha]) (V.fm.turn s (Nat.ne_of_gt (Nat.lt_add_of_pos_right (by decide))) (V.low _ (by simp))) V.mr V.ml (cell_chg V.c1 c (by simp)) ⟨v, c'⟩ (V.cd.chg c (by simpa using a3) (by simpa using Ne.symm (V.l85 G (L + 2) (by simp)))) (list_chg V.lr c (by simpa using b3)) (list_chg V.ll c (by simpa using d3))
/-- an iterator's turn -/
theorem LawI.it {I : Addr} {o : Obj} {fs : Array Value} (V : LawI w h₀ h L RA LA ex rows logs m) (G : Good0 w h₀) (hI : I ∈ ex) (li : h₀.get? I = none) (ho : h.get? I = some o) (hd : o.data = .fields fs) (nt : ∀ u v, h.get? I ≠ some (tup2 u v)) (c : Chg [I] h h') (lv : ∃ o, h'.get? I = some o) : LawI w h₀ h' L RA LA ex rows logs m := by
  obtain ⟨e1, e2⟩ := V.exs I hI
  have nb : ∀ a ∈ base L RA LA, a ∉ [I] := fun a ha q => e1 (by rw [List.mem_singleton] at q; rw [← q]; exact ha)
  have ntl : ∀ a ∈ [I], ∀ u v, h.get? a ≠ some (tup2 u v) := fun a ha => by rw [List.mem_singleton] at ha; subst ha; exact nt
  exact { fm := V.fm.chg c (nb L (by simp)) fun a ha => by rw [List.mem_singleton] at ha; subst ha; exact li
          mr := V.mr, ml := V.ml
          c1 := cell_chg V.c1 c (nb _ (by simp)), c2 := cell_chg V.c2 c (nb _ (by simp))
          cd := V.cd.chg c (nb _ (by simp)) (by rw [List.mem_singleton]; intro q; rw [← q, G.X 85 _ rfl] at li; cases li)
          lr := list_chg V.lr c (nb _ (by simp)), ll := list_chg V.ll c (nb _ (by simp))
          row := fun x hx => (V.row x hx).chg c ntl (fun a ha q => e2 x hx (by rw [List.mem_singleton] at q; rw [← q]; exact ha)) fun a ha q => by
            rw [List.mem_singleton] at q
            exact (V.row x hx).rofields a ha o fs (by rw [q]; exact ho) hd
          log := fun e he => (V.log e he).chg c ntl (fun q => by
            rw [List.mem_singleton] at q
            obtain ⟨_, _, _, _, ⟨_, ⟨o', es, ep, ho', _, hd', _⟩, _⟩, _⟩ := (V.log e he).eq
            rw [q, ho] at ho'; cases ho'; rw [hd] at hd'; cases hd') fun q => by
            rw [List.mem_singleton] at q
            obtain ⟨_, _, _, _, _, ⟨_, ⟨o', es, ep, ho', _, hd', _⟩, _⟩, _⟩ := (V.log e he).eq
            rw [q, ho] at ho'; cases ho'; rw [hd] at hd'; cases hd'
          oo := V.oo, ob := V.ob, ro := V.ro, lo := V.lo, exs := V.exs
          exl := fun a ha => by
            by_cases q : a = I
            · rw [q]; exact lv
            · obtain ⟨o, ho⟩ := V.exl a ha
              exact ⟨o, c a o (by simpa using q) ho⟩
          bn := V.bn, low := V.low, n1 := V.n1, n3 := V.n3 }
/-- an address that nobody holds, but for the row at j -/
noncomputable def NewTo (h : Heap) (L RA LA : Addr) (ex : List Addr) (rows : List Row) (logs : List LogE) (j : Nat) (a : Addr) : Prop :=
  a ∉ base L RA LA ∧ (∀ i z, i ≠ j → rows[i]? = some z → a ∉ z.own) ∧ (∀ z ∈ rows, a ∉ z.ro) ∧ (∀ e ∈ logs, a ∉ [e.d, e.d']) ∧ a ∉ ex
theorem LawI.ldlive (V : LawI w h₀ h L RA LA ex rows logs m) : ∀ e ∈ logs, ∀ a ∈ [e.d, e.d'], ∃ o, h.get? a = some o := fun e he a ha => by
  obtain ⟨_, _, _, _, ⟨_, d1, _⟩, ⟨_, d2, _⟩, _⟩ := (V.log e he).eq
  simp only [List.mem_cons, List.not_mem_nil, or_false] at ha
  rcases ha with rfl | rfl
  · exact dict_live d1
  · exact dict_live d2
theorem LawI.newTo {hk : Heap} {a : Addr} (V : LawI w h₀ h L RA LA ex rows logs m) (c : Chg l h hk) (hl : ∀ a ∈ l, a ∈ base L RA LA ∨ ∃ x, rows[j]? = some x ∧ a ∈ x.own) (bs : ∀ b ∈ base L RA LA, ∃ o, hk.get? b = some o) (ha : hk.get? a = none) : NewTo h L RA LA ex rows logs j a := by
  have lv : ∀ b, (∃ o, h.get? b = some o) → b ∉ base L RA LA → (∀ x, rows[j]? = some x → b ∉ x.own) → a ≠ b := fun b ⟨o, ho⟩ n1 n2 q => by
    have := c b o (fun u => by
      rcases hl b u with u | ⟨x, hx, u⟩
      · exact n1 u
      · exact n2 x hx u) ho
    rw [← q, ha] at this; cases this
  refine ⟨fun q => ?_, fun i z n hz q => ?_, fun z hz q => ?_, fun e he q => ?_, fun q => ?_⟩
  · obtain ⟨o, ho⟩ := bs a q
    rw [ha] at ho; cases ho
  · have hm := List.mem_of_getElem? hz
    exact lv a ((V.row z hm).live a q) (V.ob z hm a q) (fun x hx u => V.oo i j z x hz hx n a q u) rfl
  · exact lv a ((V.row z hz).rlive a q) (V.ro z hz a q).1 (fun x hx => (V.ro z hz a q).2 x (List.mem_of_getElem? hx)) rfl
  · exact lv a (V.ldlive e he a q) (V.lo e he a q).1 (fun x hx => (V.lo e he a q).2 x (List.mem_of_getElem? hx)) rfl
  · exact lv a (V.exl a q) (V.exs a q).1 (fun x hx => (V.exs a q).2 x (List.mem_of_getElem? hx)) rfl
/-- one row turns, or is new -/
theorem LawI.gen (V : LawI w h₀ h L RA LA ex rows logs m) (c : Chg l h h') (hl : ∀ a ∈ l, a ∈ base L RA LA ∨ ∃ x, rows[j]? = some x ∧ a ∈ x.own)
    (fm' : Fm h₀ L h' h' m') (mr' : m' "rows" = some (.ref RA)) (ml' : m' "logs" = some (.ref LA)) (c1' : ∃ v, h'.IsCell (L + 1) v) (c2' : ∃ v, h'.IsCell (L + 2) v) (cd' : Cd h')
    (lr' : h'.PlainList RA (rows'.map fun x => Value.ref x.r).toArray) (ll' : h'.PlainList LA (logs'.map fun e => Value.ref e.T).toArray)
    (hr : ∀ i z, rows'[i]? = some z → (i = j ∧ z = y) ∨ (i ≠ j ∧ rows[i]? = some z)) (hy : RowOk w h₀ h' y)
    (yo : ∀ a ∈ y.own, (∃ x, rows[j]? = some x ∧ a ∈ x.own) ∨ NewTo h L RA LA ex rows logs j a) (yr : ∀ a ∈ y.ro, (∃ x, rows[j]? = some x ∧ a ∈ x.ro) ∨ NewTo h L RA LA ex rows logs j a)
    (hg : ∀ e ∈ logs', e ∈ logs ∨ (LogOk w h' e ∧ ∀ a ∈ [e.d, e.d'], ((∃ x, rows[j]? = some x ∧ a ∈ x.ro) ∨ NewTo h L RA LA ex rows logs j a) ∧ a ∉ y.own)) (n1' : 1 ≤ rows'.length) (n3' : rows'.length ≤ 3) : LawI w h₀ h' L RA LA ex rows' logs' m' := by
  have nt : ∀ a ∈ l, ∀ u v, h.get? a ≠ some (tup2 u v) := fun a ha => by
    rcases hl a ha with q | ⟨x, hx, q⟩
    · exact V.bnotup a q
    · exact (V.row x (List.mem_of_getElem? hx)).notup a q
  have mem' : ∀ z ∈ rows', z = y ∨ ∃ i, i ≠ j ∧ rows[i]? = some z := fun z hz => by
    obtain ⟨i, hi⟩ := List.getElem?_of_mem hz
    rcases hr i z hi with ⟨_, q⟩ | q
    · exact .inl q
    · exact .inr ⟨i, q⟩
  -- what is protected in h is no part of the rows
  have nown : ∀ a, (∀ x ∈ rows, a ∉ x.own) → (∀ b, NewTo h L RA LA ex rows logs j b → a ≠ b) → ∀ z ∈ rows', a ∉ z.own := fun a n nb z hz q => by
    rcases mem' z hz with rfl | ⟨i, _, hi⟩
    · rcases yo a q with ⟨x, hx, q⟩ | q
      · exact n x (List.mem_of_getElem? hx) q
      · exact nb a q rfl
    · exact n z (List.mem_of_getElem? hi) q
  have rox : ∀ a, ((∃ x, rows[j]? = some x ∧ a ∈ x.ro) ∨ NewTo h L RA LA ex rows logs j a) → a ∉ base L RA LA ∧ ∀ i z, i ≠ j → rows[i]? = some z → a ∉ z.own := fun a q => by
    rcases q with ⟨x, hx, q⟩ | q
    · obtain ⟨u, v⟩ := V.ro x (List.mem_of_getElem? hx) a q
      exact ⟨u, fun i z _ hz => v z (List.mem_of_getElem? hz)⟩
    · exact ⟨q.1, q.2.1⟩
  have oth : ∀ i z, i ≠ j → rows[i]? = some z → RowOk w h₀ h' z := fun i z n hz => by
    have hm := List.mem_of_getElem? hz
    refine (V.row z hm).chg c nt (fun a ha q => ?_) fun a ha q => ?_
    · rcases hl a q with q | ⟨x, hx, q⟩
      · exact V.ob z hm a ha q
      · exact V.oo i j z x hz hx n a ha q
    · rcases hl a q with q | ⟨x, hx, q⟩
      · exact (V.ro z hm a ha).1 q
      · exact (V.ro z hm a ha).2 x (List.mem_of_getElem? hx) q
  have lives : ∀ a, a ∉ base L RA LA → (∀ x ∈ rows, a ∉ x.own) → a ∉ l := fun a n1 n2 q => by
    rcases hl a q with q | ⟨x, hx, q⟩
    · exact n1 q
    · exact n2 x (List.mem_of_getElem? hx) q
  refine ⟨fm', mr', ml', c1', c2', cd', lr', ll', ?_, ?_, ?_, ?_, ?_, ?_, ?_, ?_, V.bn, V.low, n1', n3'⟩
  · intro z hz
    rcases mem' z hz with rfl | ⟨i, n, hi⟩
    · exact hy
    · exact oth i z n hi
  · intro e he
    rcases hg e he with q | ⟨q, _⟩
    · exact (V.log e q).chg c nt (lives _ (V.lo e q e.d (by simp)).1 (V.lo e q e.d (by simp)).2) (lives _ (V.lo e q e.d' (by simp)).1 (V.lo e q e.d' (by simp)).2)
    · exact q
  · intro i k z u hz hu n a ha
    rcases hr i z hz with ⟨ei, rfl⟩ | ⟨ni, hz'⟩
    · rcases hr k u hu with ⟨ek, _⟩ | ⟨nk, hu'⟩
      · exact absurd (ei.trans ek.symm) n
      · intro q
        rcases yo a ha with ⟨x, hx, q'⟩ | q'
        · exact V.oo j k x u hx hu' (fun e => nk e.symm) a q' q
        · exact q'.2.1 k u nk hu' q
    · rcases hr k u hu with ⟨ek, rfl⟩ | ⟨nk, hu'⟩
      · intro q
        rcases yo a q with ⟨x, hx, q'⟩ | q'
        · exact V.oo i j z x hz' hx ni a ha q'
        · exact q'.2.1 i z ni hz' ha
      · exact V.oo i k z u hz' hu' n a ha
  · intro z hz a ha
    rcases mem' z hz with rfl | ⟨i, _, hi⟩
    · rcases yo a ha with ⟨x, hx, q⟩ | q
      · exact V.ob x (List.mem_of_getElem? hx) a q
      · exact q.1
    · exact V.ob z (List.mem_of_getElem? hi) a ha
  · intro z hz a ha
    rcases mem' z hz with rfl | ⟨i, n, hi⟩
    · obtain ⟨u, v⟩ := rox a (yr a ha)
      refine ⟨u, fun z' hz' => ?_⟩
      rcases mem' z' hz' with rfl | ⟨i, n, hi⟩
      · exact hy.sep a ha
      · exact v i z' n hi
    · have hm := List.mem_of_getElem? hi
      obtain ⟨u, v⟩ := V.ro z hm a ha
      exact ⟨u, nown a v fun b hb q => hb.2.2.1 z hm (q ▸ ha)⟩
  · intro e he a ha
    rcases hg e he with q | ⟨_, q⟩
    · obtain ⟨u, v⟩ := V.lo e q a ha
      exact ⟨u, nown a v fun b hb r => hb.2.2.2.1 e q (r ▸ ha)⟩
    · obtain ⟨q1, q2⟩ := q a ha
      obtain ⟨u, v⟩ := rox a q1
      refine ⟨u, fun z' hz' => ?_⟩
      rcases mem' z' hz' with rfl | ⟨i, n, hi⟩
      · exact q2
      · exact v i z' n hi
  · intro a ha
    obtain ⟨u, v⟩ := V.exs a ha
    exact ⟨u, nown a v fun b hb r => hb.2.2.2.2 (r ▸ ha)⟩
  · intro a ha
    obtain ⟨o, ho⟩ := V.exl a ha
    exact ⟨o, c a o (lives a (V.exs a ha).1 (V.exs a ha).2) ho⟩
end
end
end Mine
namespace Mine
noncomputable section
noncomputable abbrev turnB (w : World) : List Stmt := forB ((bdOf (fdOf (ob203 w).1)).drop 2)
section
variable {w : World} {A : Around} {E : Value → Shared → Prop} {h₀ h h' : Heap} {L RA LA : Addr} {m m' : Str → Option Value} {g : Array GenState} {dr : Drawn} {t : Nat} {os : OsState} {ex : List Addr} {rows : List Row} {logs : List LogE} {R : Flow → Shared → Prop} {n : Int} {tn : Tok}
theorem LawI.put (V : LawI w h₀ h L RA LA ex rows logs m) (G : Good0 w h₀) (fm' : Fm h₀ L h h' m') (mr' : m' "rows" = some (.ref RA)) (ml' : m' "logs" = some (.ref LA)) : LawI w h₀ h' L RA LA ex rows logs m' :=
  V.store (fun b o n e => fm'.ext b o (by simpa using n) e) fm'.here mr' ml' (V.l85 G L (by simp))
theorem LawI.putH (V : LawI w h₀ h L RA LA ex rows logs m) (fm' : Fm h₀ L h h' m') : Hold ex h h' := V.hold (l := [L]) (fun b o n e => fm'.ext b o (by simpa using n) e) fun a ha => .inl (by rw [List.mem_singleton] at ha; simp [ha])
theorem LawI.keepH (_ : LawI w h₀ h L RA LA ex rows logs m) (k : Keep h h') : Hold ex h h' := fun _ _ o e => k _ o e
/-- what the names tell in a turn -/
structure Pro (m : Str → Option Value) (n : Int) (tn : Tok) (j : Nat) (x : Row) (k wi : Int) (t1 t2 t3 t4 : Tok) : Prop where
  num : m "number" = some (.int n tn)
  kind : m "kind" = some (.int (n.fmod 7) t1)
  key : m "key" = some (.int k t2)
  wish : m "wish" = some (.int wi t3)
  place : m "place" = some (.int j t4)
  held : m "held" = some (.ref x.p.x)
  told : m "told" = some (.ref x.td)
  before : m "before" = some (.ref x.bd)
  fresh : m "fresh" = some (.ref x.fa)
theorem pro_ok (G : Good0 w h₀) (hh : A.handled = none) (V : LawI w h₀ h L RA LA ex rows logs m) (mn : m "number" = some (.int n tn))
    (kk : ∀ h' t' m' j x k wi t1 t2 t3 t4, LawI w h₀ h' L RA LA ex rows logs m' → rows[j]? = some x → k ∈ K3 → (wi = k ∨ wi = -k) → Pro m' n tn j x k wi t1 t2 t3 t4 → Hold ex h h' →
      wpAny (MM w) A (execs ((turnB w).drop 6) (envL w L)) R E ⟨h', g, dr, t', os⟩) :
    wpAny (MM w) A (execs (turnB w) (envL w L)) R E ⟨h, g, dr, t, os⟩ := by
  -- kind
  refine wpAny_execs_cons (wpAny_Assign_Name (wpAny_BinOp (n_loc V.fm (v := .int n tn) (wpAny_Constant_int (PyProof.Rows.mod_int' (by decide) (m_store V.fm rfl rfl fun h₁ t₁ fm₁ => ?_))) mn)))
  have V₁ := V.put G fm₁ (by exact V.mr) (by exact V.ml)
  have H₁ := V.putH fm₁
  -- one
  refine wpAny_execs_cons (wpAny_Assign_Name (wpAny_BinOp (wpAny_BinOp (n_loc V₁.fm (v := .int n tn) (wpAny_Constant_int (PyProof.Rows.floordiv_int (by decide) (wpAny_Constant_int (PyProof.Rows.mod_int' (by decide) (m_store V₁.fm rfl rfl fun h₂ t₂ fm₂ => ?_))) (.inl (PyProof.noPylong_small (by decide))))) (by exact mn)))))
  have V₂ := V₁.put G fm₂ (by exact V.mr) (by exact V.ml)
  have H₂ := V₁.putH fm₂
  generalize hone : ((n.fdiv 7).fmod 6) = one at fm₂ V₂ H₂ ⊢
  have o0 : 0 ≤ one := by rw [← hone]; exact Int.fmod_nonneg_of_pos _ (by decide)
  -- key
  refine wpAny_execs_cons (wpAny_Assign_Name (Subscript_ (wpAny_Tuple (args_cons (wpAny_Constant_int (args_cons (wpAny_Constant_int (args_cons (wpAny_Constant_int (args_nil ⟨by rw [sizeLine_eq]; show 3 ≤ _; decide, ?_⟩)) rfl)) rfl)) rfl))))
  generalize hvs' : [Value.int 3 _, Value.int 8 _, Value.int 16 _] = vs'
  have hI' : IntsAre vs' K3 := by rw [← hvs']; exact .cons _ _ (.cons _ _ (.cons _ _ .nil))
  dsimp only
  have k₃ : Keep h₂ (h₂.push { cls := .type "tuple", data := .seq vs'.toArray }) := fun b o e => Heap.get?_push_of_some _ e
  have t₃' : IsTup (h₂.push { cls := .type "tuple", data := .seq vs'.toArray }) h₂.objs.size vs'.toArray := ⟨_, Heap.get?_push_size _ rfl, rfl, _, rfl⟩
  generalize h₂.push { cls := .type "tuple", data := .seq vs'.toArray } = h₃ at k₃ t₃' ⊢
  have V₃ := V₂.keep k₃
  refine wpAny_BinOp (n_loc V₃.fm (v := .int one _) (wpAny_Constant_int (PyProof.Rows.mod_int' (by decide) ?_)) rfl)
  have i0 : 0 ≤ one.fmod 3 := Int.fmod_nonneg_of_pos _ (by decide)
  have i3 : one.fmod 3 < 3 := Int.fmod_lt_of_pos _ (by decide)
  have vl : vs'.length = 3 := by
    have := hI'.sizeZ
    simp only [List.size_toArray] at this
    have : K3.length = 3 := rfl
    omega
  have hlt : (one.fmod 3).toNat < vs'.length := by omega
  obtain ⟨k, tk, hv, hki⟩ := hI'.at (one.fmod 3).toNat vs'[(one.fmod 3).toNat] (List.getElem?_eq_getElem hlt)
  have hk : k ∈ K3 := List.mem_of_getElem? hki
  refine item_tupleT (x := .int k tk) (j := (one.fmod 3).toNat) t₃' (by omega) (by omega) ?_ (by rw [List.getElem?_eq_getElem hlt, hv]) ?_
  · exact seqIndex_at i0 (by rw [vl]; exact i3)
  refine m_store V₃.fm rfl rfl fun h₄ t₄ fm₄ => ?_
  have V₄ := V₃.put G fm₄ (by exact V.mr) (by exact V.ml)
  have H₄ := V₃.putH fm₄
  have hold₄ : Hold ex h h₄ := ((H₁.trans H₂).trans (V₂.keepH k₃)).trans H₄
  -- wish
  have wi : ∀ (wi : Int) t₅ t₆, (wi = k ∨ wi = -k) → wpAny (MM w) A (storeName (envL w L) "wish" (.int wi t₆)) (fun _ s => wpAny (MM w) A (execs ((turnB w).drop 4) (envL w L)) R E s) E ⟨h₄, g, dr, t₅, os⟩ := by
    intro wi t₅ t₆ hwi
    refine m_store V₄.fm rfl rfl fun h₅ t₇ fm₅ => ?_
    have V₅ := V₄.put G fm₅ (by exact V.mr) (by exact V.ml)
    have H₅ := V₄.putH fm₅
    -- place
    have hsz : ((rows.map fun x => Value.ref x.r).toArray.size : Int) = rows.length := by simp
    have n1 := V.n1
    have n3 := V.n3
    refine wpAny_execs_cons (wpAny_Assign_Name (wpAny_BinOp (wpAny_BinOp (n_loc V₅.fm (v := .int n tn) (wpAny_Constant_int (PyProof.Rows.floordiv_int (by decide) ?_ (.inl (PyProof.noPylong_small (by decide))))) (by exact mn)))))
    refine n_bf1 G V₅.fm boot_len (b_len w) (n_loc V₅.fm (v := .ref RA) (call_len_list V₅.lr.isList (by rw [hsz]; omega) ?_) (by exact V.mr))
    rw [hsz]
    refine PyProof.Rows.mod_int' (by omega) (m_store V₅.fm rfl rfl fun h₆ t₈ fm₆ => ?_)
    have p0 : 0 ≤ (n.fdiv 42).fmod rows.length := Int.fmod_nonneg_of_pos _ (by omega)
    have p1 : (n.fdiv 42).fmod rows.length < rows.length := Int.fmod_lt_of_pos _ (by omega)
    obtain ⟨j, hj⟩ := Int.eq_ofNat_of_zero_le p0
    rw [hj] at fm₆ p1
    have V₆ := V₅.put G fm₆ (by exact V.mr) (by exact V.ml)
    have H₆ := V₅.putH fm₆
    have hjl : j < rows.length := by omega
    have hx : rows[j]? = some rows[j] := List.getElem?_eq_getElem hjl
    generalize rows[j] = x at hx
    have X₆ := V₆.row x (List.mem_of_getElem? hx)
    -- the row
    refine wpAny_execs_cons (assign4 hh (Subscript_ (n_loc V₆.fm (v := .ref RA) (n_loc V₆.fm (v := .int j _) (item_listL V₆.lr.isList (x := .ref x.r) (by omega) (by omega) (by rw [Int.toNat_natCast, List.getElem?_map, hx]; rfl) ⟨rfl, _, _, g, rfl, X₆.list, fun h₇ k₇ => ?_⟩) rfl) (by exact V.mr))) rfl)
    have V₇ := V₆.keep k₇
    refine m_store V₇.fm rfl rfl fun h₈ t₉ fm₈ => ?_
    have V₈ := V₇.put G fm₈ (by exact V.mr) (by exact V.ml)
    refine m_store V₈.fm rfl rfl fun h₉ t₁₀ fm₉ => ?_
    have V₉ := V₈.put G fm₉ (by exact V.mr) (by exact V.ml)
    refine m_store V₉.fm rfl rfl fun h₁₀ t₁₁ fm₁₀ => ?_
    have V₁₀ := V₉.put G fm₁₀ (by exact V.mr) (by exact V.ml)
    refine m_store V₁₀.fm rfl rfl fun h₁₁ t₁₂ fm₁₁ => ?_
    have V₁₁ := V₁₀.put G fm₁₁ (by exact V.mr) (by exact V.ml)
    have hold : Hold ex h h₁₁ := (((((hold₄.trans H₅).trans H₆).trans (V₆.keepH k₇)).trans (V₇.putH fm₈)).trans (V₈.putH fm₉)).trans ((V₉.putH fm₁₀).trans (V₁₀.putH fm₁₁))
    exact kk h₁₁ _ _ j x k wi _ _ _ _ V₁₁ hx hk hwi ⟨by exact mn, rfl, rfl, rfl, rfl, rfl, rfl, rfl, rfl⟩ hold
  refine wpAny_execs_cons (wpAny_Assign_Name (wpAny_IfExp (wpAny_isTrue_Compare1 (n_loc V₄.fm (v := .int one _) (wpAny_Constant_int (PyProof.Rows.lt_int (wpAny_truthy_bool ?_))) rfl))))
  by_cases hlt3 : one < 3
  · rw [decide_eq_true hlt3, if_pos rfl]
    exact n_loc V₄.fm (v := .int k tk) (wi k _ _ (.inl rfl)) rfl
  · rw [decide_eq_false hlt3, if_neg (by decide)]
    exact wpAny_UnaryOp (n_loc V₄.fm (v := .int k tk) (neg_int (wi (-k) _ _ (.inr rfl))) rfl)
end
end
end Mine
namespace Mine
noncomputable section
section
variable {w : World} {A : Around} {E : Value → Shared → Prop} {h₀ h h' : Heap} {L RA LA : Addr} {m m' : Str → Option Value} {g : Array GenState} {dr : Drawn} {t : Nat} {os : OsState} {ex : List Addr} {rows : List Row} {logs : List LogE} {R : Flow → Shared → Prop} {n : Int} {tn : Tok} {x y : Row} {j : Nat} {k wi : Int} {t1 t2 t3 t4 : Tok} {l : List Addr}
theorem Told.set {a : Addr} {T : List (Int × Value)} {tv : Int → Option (Option Bool)} {o : Option Bool} (x : Told w h a T tv) (hk : k ∈ K3) (hd : h'.DictOf (IK w) a (stored T k (bv o))) : Told w h' a (stored T k (bv o)) (upd tv k (some o)) := by
  refine ⟨hd, fun z hz => ?_, fun i => ?_, x.sys⟩
  · rcases mem_stored hz with q | q
    · rw [q]; exact hk
    · exact x.keys z q
  · rw [va_stored]
    by_cases q : i = k
    · subst q; rw [if_pos rfl, upd_self]; rfl
    · rw [if_neg q, upd_ne _ _ q]; exact x.val i
theorem Told.del {a : Addr} {T : List (Int × Value)} {tv : Int → Option (Option Bool)} (x : Told w h a T tv) (hd : h'.DictOf (IK w) a (without T k)) : Told w h' a (without T k) (upd tv k none) := by
  refine ⟨hd, fun z hz => x.keys z (mem_without hz), fun i => ?_, x.sys⟩
  rw [va_without]
  by_cases q : i = k
  · subst q; rw [if_pos rfl, upd_self]; rfl
  · rw [if_neg q, upd_ne _ _ q]; exact x.val i
theorem Told.lt3 {a : Addr} {T : List (Int × Value)} {tv : Int → Option (Option Bool)} (x : Told w h a T tv) : T.length ≤ 3 := by rw [x.len]; exact kn_len tv
theorem RowOk.parts (X : RowOk w h₀ h x) : x.td ≠ x.fa ∧ x.td ∉ x.p.addrs ∧ x.fa ∉ x.p.addrs := by
  have := X.nd
  simp only [Row.own, List.nodup_cons, List.mem_cons, not_or] at this
  obtain ⟨⟨a, b⟩, c, _⟩ := this
  exact ⟨a, by simpa using b, by simpa using c⟩
theorem RowOk.turn {p' : Ptr} {tv' : Int → Option (Option Bool)} {nf' : Int → Bool} {T' : List (Int × Value)} {vf' : List Value} {ns' : List Int} (X : RowOk w h₀ h x) (c : Chg l h h') (hl : ∀ a ∈ x.ro, a ∉ l) (st' : St w h₀ h' p' tv' x.bf nf') (ea : p'.addrs = x.p.addrs) (ex : p'.x = x.p.x) (ecv : p'.cv = x.p.cv ∨ p'.cv = .none)
    (told' : Told w h' x.td T' tv') (fr' : Fresh h' x.fa vf' ns' nf') (pl' : h'.PlainList x.fa vf'.toArray) : RowOk w h₀ h' { x with p := p', T := T', vf := vf', ns := ns', tv := tv', nf := nf' } := by
  have eo : Row.own { x with p := p', T := T', vf := vf', ns := ns', tv := tv', nf := nf' } = x.own := by show x.td :: x.fa :: p'.addrs = _; rw [ea]
  have er : ∀ a ∈ Row.ro { x with p := p', T := T', vf := vf', ns := ns', tv := tv', nf := nf' }, a ∈ x.ro := fun a ha => by
    rcases List.mem_cons.mp ha with q | ha
    · exact List.mem_cons.mpr (.inl q)
    · rcases List.mem_cons.mp ha with q | ha
      · exact List.mem_cons.mpr (.inr (List.mem_cons.mpr (.inl q)))
      · refine List.mem_cons.mpr (.inr (List.mem_cons.mpr (.inr ?_)))
        have := mem_cvL.mp ha
        rcases ecv with q | q
        · exact mem_cvL.mpr (q ▸ this)
        · rw [show p'.cv = .ref a from this] at q; cases q
  refine ⟨st', told', X.befo.at fun o e => c _ o (hl _ (by simp)) e, fr', pl', ?_, ?_, by rw [eo]; exact X.nd, by rw [eo]; exact X.low, fun a ha => by rw [eo]; exact X.sep a (er a ha)⟩
  · show h'.IsList x.r #[.ref p'.x, .ref x.td, .ref x.bd, .ref x.fa]
    rw [ex]
    exact X.list.at fun o e => c _ o (hl _ (by simp)) e
  · intro d e
    rcases ecv with q | q
    · exact X.cvs d (q ▸ e)
    · rw [show p'.cv = .ref d from e] at q; cases q
theorem set_get {α : Type} {rows : List α} {j : Nat} {x y : α} (hx : rows[j]? = some x) : ∀ i z, (rows.set j y)[i]? = some z → (i = j ∧ z = y) ∨ (i ≠ j ∧ rows[i]? = some z) := by
  intro i z e
  have hj : j < rows.length := by
    rcases Nat.lt_or_ge j rows.length with q | q
    · exact q
    · rw [List.getElem?_eq_none q] at hx; cases hx
  rw [List.getElem?_set] at e
  by_cases q : j = i
  · rw [if_pos q, if_pos hj] at e
    exact .inl ⟨q.symm, (Option.some.inj e).symm⟩
  · rw [if_neg q] at e
    exact .inr ⟨fun u => q u.symm, e⟩
theorem LawI.own (V : LawI w h₀ h L RA LA ex rows logs m) (G : Good0 w h₀) (hx : rows[j]? = some x) (c : Chg x.own h h') (hy : RowOk w h₀ h' y) (eo : y.own = x.own) (er : ∀ a ∈ y.ro, a ∈ x.ro) (err : y.r = x.r) : LawI w h₀ h' L RA LA ex (rows.set j y) logs m := by
  have hm := List.mem_of_getElem? hx
  have X := V.row x hm
  have nb : ∀ a ∈ base L RA LA, a ∉ x.own := fun a ha q => V.ob x hm a q ha
  have n85 : 85 ∉ x.own := fun q => by
    have := X.low 85 q
    rw [G.X 85 _ rfl] at this; cases this
  refine V.gen (j := j) (y := y) (l := x.own) c (fun a ha => .inr ⟨x, hx, ha⟩) (V.fm.chg c (nb L (by simp)) X.low) V.mr V.ml (cell_chg V.c1 c (nb _ (by simp))) (cell_chg V.c2 c (nb _ (by simp))) (V.cd.chg c (nb 81 (by simp)) n85) ?_ (list_chg V.ll c (nb _ (by simp))) (set_get hx) hy (fun a ha => .inl ⟨x, hx, eo ▸ ha⟩) (fun a ha => .inl ⟨x, hx, er a ha⟩) (fun e he => .inl he) (by rw [List.length_set]; exact V.n1) (by rw [List.length_set]; exact V.n3)
  have : (rows.set j y).map (fun x => Value.ref x.r) = rows.map fun x => Value.ref x.r := by
    rw [List.map_set, err]
    apply List.ext_getElem?
    intro i
    rw [List.getElem?_set]
    split
    · rename_i q; subst q
      split
      · rw [List.getElem?_map, hx]; rfl
      · rename_i q; rw [List.getElem?_eq_none (Nat.not_lt.mp q)]
    · rfl
  rw [this]
  exact list_chg V.lr c (nb _ (by simp))
/-- fresh.append(key) where it is asked -/
theorem fresh_ok (V : LawI w h₀ h L RA LA ex rows logs m) (hx : rows[j]? = some x) (hk : k ∈ K3) (P : Pro m n tn j x k wi t1 t2 t3 t4) (hlt : n.fmod 7 < 3)
    (kk : ∀ h' t' vf' ns', Chg [x.fa] h h' → h'.PlainList x.fa vf'.toArray → Fresh h' x.fa vf' ns' (fun i => x.nf i || (!(x.tv k).isSome && i == k)) → wpAny (MM w) A (execs ((turnB w).drop 7) (envL w L)) R E ⟨h', g, dr, t', os⟩) :
    wpAny (MM w) A (execs ((turnB w).drop 6) (envL w L)) R E ⟨h, g, dr, t, os⟩ := by
  have X := V.row x (List.mem_of_getElem? hx)
  refine wpAny_execs_cons (wpAny_If (isTrue_and (wpAny_isTrue_Compare1 (n_loc V.fm (v := .int (n.fmod 7) t1) (wpAny_Constant_int (PyProof.Rows.lt_int (wpAny_truthy_bool ?_))) P.kind))))
  rw [decide_eq_true hlt, if_pos rfl]
  refine isTrue_and (wpAny_isTrue_Compare1 (n_loc V.fm (v := .int k t2) (n_loc V.fm (v := .ref x.td) (d_notin (k := k) (tk := t2) X.told.dict X.told.sys fun t' => wpAny_truthy_bool ?_) P.told) P.key))
  rw [X.told.val, Option.isSome_map]
  cases hs : (x.tv k).isSome with
  | true =>
    show wpAny _ _ _ _ _ _
    refine wpAny_execs_nil (kk h _ x.vf x.ns (Chg.refl _ _) X.fap ?_)
    rw [hs]
    simpa using X.fresh
  | false =>
    rw [if_pos (by rfl)]
    refine isTrue_and (wpAny_isTrue_Compare1 (n_loc V.fm (v := .int k t2) (n_loc V.fm (v := .ref x.fa) (notin_list_ints X.fresh.list X.fresh.isI (wpAny_truthy_bool ?_)) P.fresh) P.key))
    have ec : x.ns.any (· == k) = x.ns.contains k := by
      rw [Bool.eq_iff_iff, List.any_eq_true, List.contains_iff_mem]
      exact ⟨fun ⟨y, hy, e⟩ => (by simpa using e : y = k) ▸ hy, fun q => ⟨k, q, by simp⟩⟩
    rw [ec]
    cases hc : x.ns.contains k with
    | true =>
      show wpAny _ _ _ _ _ _
      refine wpAny_execs_nil (kk h _ x.vf x.ns (Chg.refl _ _) X.fap ⟨X.fresh.list, X.fresh.isI, X.fresh.nd, X.fresh.keys, fun i hi => ?_⟩)
      rw [hs, X.fresh.val i hi]
      by_cases q : i = k
      · subst q; rw [hc]; rfl
      · simp [q]
    | false =>
      rw [if_pos (by rfl)]
      refine isTrue_and_nil ?_
      rw [if_pos rfl]
      have hnl : x.vf.length ≤ 3 := by
        have e1 := X.fresh.isI.sizeZ
        simp only [List.size_toArray] at e1
        have := len_of_keys (l := x.ns.map fun k => (k, ())) (ks := K3) (by rw [List.map_map]; simpa [Function.comp_def] using X.fresh.nd) (fun y hy => by obtain ⟨k, hk', rfl⟩ := List.mem_map.mp hy; exact X.fresh.keys k hk')
        rw [List.length_map] at this
        have : K3.length = 3 := rfl
        omega
      obtain ⟨nn, ho⟩ := id X.fap
      refine wpAny_execs_cons (wpAny_Expr_any (n_bm1 F.plainAttrs_list slot_list_append type_list_append (n_loc V.fm (v := .ref x.fa) ⟨_, rfl, ⟨_, ho, rfl, rfl⟩, n_loc V.fm (v := .int k t2) (wpAny_list_append_plain X.fap (fun h₁ p₁ s₁ => ?_) (by rw [sizeLine_eq, List.size_toArray]; omega)) P.key⟩ P.fresh)))
      have e2 : x.vf.toArray.push (Value.int k t2) = (x.vf ++ [Value.int k t2]).toArray := by simp
      rw [e2] at p₁
      refine wpAny_execs_nil (kk h₁ _ (x.vf ++ [.int k t2]) (x.ns ++ [k]) (Chg.of_same s₁ (by simp)) p₁ ⟨p₁.isList, X.fresh.isI.append (ints1 k t2), ?_, fun i hi => ?_, fun i hi => ?_⟩)
      · rw [List.nodup_append]
        refine ⟨X.fresh.nd, by simp, fun a ha b hb => ?_⟩
        rw [List.mem_singleton] at hb
        rintro rfl
        rw [hb] at ha
        rw [← List.contains_iff_mem] at ha
        rw [hc] at ha; cases ha
      · rcases List.mem_append.mp hi with q | q
        · exact X.fresh.keys i q
        · rw [List.mem_singleton] at q; rw [q]; exact hk
      · rw [hs, X.fresh.val i hi, List.contains_append]
        by_cases q : i = k
        · subst q; simp
        · simp [q]
end
end
end Mine
namespace Mine
noncomputable section
section
variable {w : World} {A : Around} {E : Value → Shared → Prop} {h₀ h h₁ h₂ h₃ : Heap} {L RA LA : Addr} {m : Str → Option Value} {g : Array GenState} {dr : Drawn} {t : Nat} {os : OsState} {ex : List Addr} {rows : List Row} {logs : List LogE} {R : Flow → Shared → Prop} {n : Int} {tn : Tok} {x : Row} {j : Nat} {k wi : Int} {t1 t2 t3 t4 : Tok}
theorem fin3 {p' : Ptr} {tv' : Int → Option (Option Bool)} {nf' : Int → Bool} {T' : List (Int × Value)} {vf' : List Value} {ns' : List Int} (V : LawI w h₀ h L RA LA ex rows logs m) (G : Good0 w h₀) (hx : rows[j]? = some x) (c₁ : Chg [x.fa] h h₁) (pl₁ : h₁.PlainList x.fa vf'.toArray) (fr₁ : Fresh h₁ x.fa vf' ns' nf')
    (c₂ : Chg x.p.addrs h₁ h₂) (st₂ : St w h₀ h₂ p' tv' x.bf nf') (ea : p'.addrs = x.p.addrs) (ex' : p'.x = x.p.x) (ecv : p'.cv = x.p.cv ∨ p'.cv = .none) (s₃ : Heap.SameBut x.td h₂ h₃) (told₃ : Told w h₃ x.td T' tv') :
    LawI w h₀ h₃ L RA LA ex (rows.set j { x with p := p', T := T', vf := vf', ns := ns', tv := tv', nf := nf' }) logs m ∧ Hold ex h h₃ := by
  have hm := List.mem_of_getElem? hx
  have X := V.row x hm
  obtain ⟨q1, q2, q3⟩ := X.parts
  have c₃ : Chg [x.td] h₂ h₃ := Chg.of_same s₃ (by simp)
  have c : Chg x.own h h₃ := ((c₁.mono fun a ha => by rw [List.mem_singleton] at ha; simp [ha]).trans (c₂.mono fun a ha => List.mem_cons_of_mem _ (List.mem_cons_of_mem _ ha))).trans (c₃.mono fun a ha => by rw [List.mem_singleton] at ha; simp [ha])
  have told₂ : h₂.DictOf (IK w) x.td x.T := DictOf_at X.told.dict fun o e => c₂ _ o q2 (c₁ _ o (by simpa using q1) e)
  have cvd : ∀ d, p'.cv = .ref d → d ∉ [x.td] := fun d e q => by
    rw [List.mem_singleton] at q
    rcases ecv with u | u
    · exact X.sep d (List.mem_cons_of_mem _ (List.mem_cons_of_mem _ (mem_cvL.mpr (u ▸ e)))) (by simp [q])
    · rw [e] at u; cases u
  have st₃ : St w h₀ h₃ p' tv' x.bf nf' := st₂.chg c₃ (fun a ha => by rw [List.mem_singleton] at ha; subst ha; exact dict_notup told₂) (fun a ha q => by
    rw [List.mem_singleton] at q
    rw [ea] at ha
    exact q2 (q ▸ ha)) cvd
  have up : ∀ o, h₁.get? x.fa = some o → h₃.get? x.fa = some o := fun o e => (s₃.2 _ (Ne.symm q1)).trans (c₂ _ o q3 e)
  have Y := X.turn c X.sep st₃ ea ex' ecv told₃ (fr₁.at up) (pl₁.at up)
  have eo : Row.own { x with p := p', T := T', vf := vf', ns := ns', tv := tv', nf := nf' } = x.own := by show x.td :: x.fa :: p'.addrs = _; rw [ea]
  refine ⟨V.own G hx c Y eo (fun a ha => ?_) rfl, V.hold c fun a ha => .inr ⟨x, hm, ha⟩⟩
  rcases List.mem_cons.mp ha with q | ha
  · exact List.mem_cons.mpr (.inl q)
  · rcases List.mem_cons.mp ha with q | ha
    · exact List.mem_cons.mpr (.inr (List.mem_cons.mpr (.inl q)))
    · refine List.mem_cons.mpr (.inr (List.mem_cons.mpr (.inr ?_)))
      have := mem_cvL.mp ha
      rcases ecv with q | q
      · exact mem_cvL.mpr (q ▸ this)
      · rw [show p'.cv = .ref a from this] at q; cases q
/-- the state of the row behind fresh.append -/
theorem mid3 {vf' : List Value} (V : LawI w h₀ h L RA LA ex rows logs m) (hx : rows[j]? = some x) (c₁ : Chg [x.fa] h h₁) : Fm h₀ L h₁ h₁ m ∧ St w h₀ h₁ x.p x.tv x.bf x.nf ∧ Told w h₁ x.td x.T x.tv ∧ (∀ h₂, Chg x.p.addrs h₁ h₂ → Fm h₀ L h₂ h₂ m ∧ Told w h₂ x.td x.T x.tv) := by
  have hm := List.mem_of_getElem? hx
  have X := V.row x hm
  obtain ⟨q1, q2, q3⟩ := X.parts
  have nL : ∀ a ∈ x.own, L ≠ a := fun a ha q => V.ob x hm a ha (by simp [← q])
  have fm₁ := V.fm.chg c₁ (by simpa using nL x.fa (by simp)) fun a ha => by rw [List.mem_singleton] at ha; subst ha; exact X.low _ (by simp)
  have told₁ := X.told.at fun o e => c₁ _ o (by simpa using q1) e
  refine ⟨fm₁, ?_, told₁, fun h₂ c₂ => ⟨fm₁.chg c₂ (fun q => nL L (List.mem_cons_of_mem _ (List.mem_cons_of_mem _ q)) rfl) fun a ha => X.low a (List.mem_cons_of_mem _ (List.mem_cons_of_mem _ ha)), told₁.at fun o e => c₂ _ o q2 e⟩⟩
  refine X.st.chg c₁ (fun a ha => by rw [List.mem_singleton] at ha; subst ha; exact list_notup X.fresh.list) (fun a ha q => ?_) fun d e q => ?_
  · rw [List.mem_singleton] at q; exact q3 (q ▸ ha)
  · rw [List.mem_singleton] at q
    exact X.sep d (List.mem_cons_of_mem _ (List.mem_cons_of_mem _ (mem_cvL.mpr e))) (by simp [q])
/-- grant or refuse -/
theorem act01 (G : Good0 w h₀) (hroom : A.depth + 8 < recursionLimit) (V : LawI w h₀ h L RA LA ex rows logs m) (hx : rows[j]? = some x) (hk : k ∈ K3) (hw : wi = k ∨ wi = -k) (P : Pro m n tn j x k wi t1 t2 t3 t4) (hlt : n.fmod 7 < 2)
    (kk : ∀ h' t' y, LawI w h₀ h' L RA LA ex (rows.set j y) logs m → Hold ex h h' → wpAny (MM w) A (execs ((turnB w).drop 8) (envL w L)) R E ⟨h', g, dr, t', os⟩) :
    wpAny (MM w) A (execs ((turnB w).drop 6) (envL w L)) R E ⟨h, g, dr, t, os⟩ := by
  refine fresh_ok V hx hk P (by omega) fun h₁ u₁ vf' ns' c₁ pl₁ fr₁ => ?_
  obtain ⟨fm₁, st₁, told₁, nx⟩ := mid3 (vf' := vf') V hx c₁
  refine wpAny_execs_cons (wpAny_If (wpAny_isTrue_Compare1 (n_loc fm₁ (v := .int (n.fmod 7) t1) (wpAny_Constant_int (PyProof.Rows.lt_int (wpAny_truthy_bool ?_))) P.kind)))
  rw [decide_eq_true hlt, if_pos rfl]
  refine wpAny_execs_cons (wpAny_Assign_Subscript (wpAny_Compare1 (n_loc fm₁ (v := .int (n.fmod 7) t1) (wpAny_Constant_int (PyProof.Rows.eq_int ?_)) P.kind)))
  obtain ⟨D, Ol, S, Gs, N, X1, r1, _⟩ := id st₁
  refine n_loc fm₁ (v := .ref x.p.x) (n_loc fm₁ (v := .int wi t3) ?_ P.wish) P.held
  refine o_set (G.X.keeps fm₁.base) X1.inst X1.att.ns (st_setb (k := k) (key := wi) (tk := t3) G fm₁.base (by omega) st₁ hk hw fun h₂ u₂ st₂ c₂ => ?_)
  obtain ⟨fm₂, told₂⟩ := nx h₂ c₂
  refine wpAny_execs_cons (wpAny_Assign_Subscript (wpAny_Compare1 (wpAny_Compare1 (n_loc fm₂ (v := .int (n.fmod 7) t1) (wpAny_Constant_int (PyProof.Rows.eq_int ?_)) P.kind))))
  refine wpAny_Compare1 (n_loc fm₂ (v := .int wi t3) (wpAny_Constant_int (PyProof.Rows.gt_int ?_)) P.wish)
  refine wpAny_is_plain rfl ?_
  have kp := k3_pos hk
  have ev : (Value.bool (n.fmod 7 == 0) == Value.bool (decide (0 < wi))) = (if wi = k then (n.fmod 7 == 0) else !(n.fmod 7 == 0)) := by
    rcases hw with q | q
    · rw [if_pos q, decide_eq_true (by omega)]
      cases (n.fmod 7 == 0) <;> rfl
    · rw [if_neg (by omega), decide_eq_false (by omega)]
      cases (n.fmod 7 == 0) <;> rfl
  rw [ev]
  have l3 := told₂.lt3
  refine n_loc fm₂ (v := .ref x.td) (n_loc fm₂ (v := .int k t2) (n_setitem (k := k) (tk := t2) told₂.dict (by omega) fun h₃ u₃ s₃ d₃ => ?_) P.key) P.told
  obtain ⟨V', H'⟩ := fin3 V G hx c₁ pl₁ fr₁ c₂ st₂ rfl rfl (.inr rfl) s₃ (told₂.set (o := some _) hk d₃)
  exact wpAny_execs_nil (kk h₃ _ _ V' H')
/-- make open -/
theorem act2 (G : Good0 w h₀) (hroom : A.depth + 8 < recursionLimit) (V : LawI w h₀ h L RA LA ex rows logs m) (hx : rows[j]? = some x) (hk : k ∈ K3) (P : Pro m n tn j x k wi t1 t2 t3 t4) (hlt : n.fmod 7 = 2)
    (kk : ∀ h' t' y, LawI w h₀ h' L RA LA ex (rows.set j y) logs m → Hold ex h h' → wpAny (MM w) A (execs ((turnB w).drop 8) (envL w L)) R E ⟨h', g, dr, t', os⟩) :
    wpAny (MM w) A (execs ((turnB w).drop 6) (envL w L)) R E ⟨h, g, dr, t, os⟩ := by
  refine fresh_ok V hx hk P (by omega) fun h₁ u₁ vf' ns' c₁ pl₁ fr₁ => ?_
  obtain ⟨fm₁, st₁, told₁, nx⟩ := mid3 (vf' := vf') V hx c₁
  refine wpAny_execs_cons (wpAny_If (wpAny_isTrue_Compare1 (n_loc fm₁ (v := .int (n.fmod 7) t1) (wpAny_Constant_int (PyProof.Rows.lt_int (wpAny_truthy_bool ?_))) P.kind)))
  rw [decide_eq_false (by omega), if_neg (by decide)]
  refine wpAny_execs_cons (wpAny_If (wpAny_isTrue_Compare1 (n_loc fm₁ (v := .int (n.fmod 7) t1) (wpAny_Constant_int (PyProof.Rows.eq_int (wpAny_truthy_bool ?_))) P.kind)))
  rw [hlt, if_pos (by decide)]
  obtain ⟨D, Ol, S, Gs, N, X1, r1, _⟩ := id st₁
  refine wpAny_execs_cons (wpAny_Assign_Subscript (Constant_none (n_loc fm₁ (v := .ref x.p.x) (n_loc fm₁ (v := .int k t2) ?_ P.key) P.held)))
  refine o_set (G.X.keeps fm₁.base) X1.inst X1.att.ns (st_setn (k := k) (key := k) (tk := t2) G fm₁.base (by omega) st₁ hk (.inl rfl) fun h₂ u₂ p' ex' ea ecv st₂ c₂ => ?_)
  obtain ⟨fm₂, told₂⟩ := nx h₂ c₂
  have l3 := told₂.lt3
  refine wpAny_execs_cons (wpAny_Assign_Subscript (Constant_none (n_loc fm₂ (v := .ref x.td) (n_loc fm₂ (v := .int k t2) (n_setitem (k := k) (tk := t2) told₂.dict (by omega) fun h₃ u₃ s₃ d₃ => ?_) P.key) P.told)))
  obtain ⟨V', H'⟩ := fin3 V G hx c₁ pl₁ fr₁ c₂ st₂ ea ex' ecv s₃ (told₂.set (o := none) hk d₃)
  exact wpAny_execs_nil (wpAny_execs_nil (kk h₃ _ _ V' H'))
/-- fresh.append is not asked -/
theorem fresh_no (V : LawI w h₀ h L RA LA ex rows logs m) (P : Pro m n tn j x k wi t1 t2 t3 t4) (hlt : ¬ n.fmod 7 < 3)
    (kk : ∀ t', wpAny (MM w) A (execs ((turnB w).drop 7) (envL w L)) R E ⟨h, g, dr, t', os⟩) :
    wpAny (MM w) A (execs ((turnB w).drop 6) (envL w L)) R E ⟨h, g, dr, t, os⟩ := by
  refine wpAny_execs_cons (wpAny_If (isTrue_and (wpAny_isTrue_Compare1 (n_loc V.fm (v := .int (n.fmod 7) t1) (wpAny_Constant_int (PyProof.Rows.lt_int (wpAny_truthy_bool ?_))) P.kind))))
  rw [decide_eq_false hlt, if_neg (by decide)]
  exact wpAny_execs_nil (kk _)
/-- forget -/
theorem act3 (G : Good0 w h₀) (hroom : A.depth + 8 < recursionLimit) (V : LawI w h₀ h L RA LA ex rows logs m) (hx : rows[j]? = some x) (hk : k ∈ K3) (P : Pro m n tn j x k wi t1 t2 t3 t4) (hlt : n.fmod 7 = 3)
    (kk : ∀ h' t' y, LawI w h₀ h' L RA LA ex (rows.set j y) logs m → Hold ex h h' → wpAny (MM w) A (execs ((turnB w).drop 8) (envL w L)) R E ⟨h', g, dr, t', os⟩) :
    wpAny (MM w) A (execs ((turnB w).drop 6) (envL w L)) R E ⟨h, g, dr, t, os⟩ := by
  refine fresh_no V P (by omega) fun u₁ => ?_
  have X := V.row x (List.mem_of_getElem? hx)
  obtain ⟨fm₁, st₁, told₁, nx⟩ := mid3 (vf' := x.vf) V hx (Chg.refl _ _)
  refine wpAny_execs_cons (wpAny_If (wpAny_isTrue_Compare1 (n_loc fm₁ (v := .int (n.fmod 7) t1) (wpAny_Constant_int (PyProof.Rows.lt_int (wpAny_truthy_bool ?_))) P.kind)))
  rw [decide_eq_false (by omega), if_neg (by decide)]
  refine wpAny_execs_cons (wpAny_If (wpAny_isTrue_Compare1 (n_loc fm₁ (v := .int (n.fmod 7) t1) (wpAny_Constant_int (PyProof.Rows.eq_int (wpAny_truthy_bool ?_))) P.kind)))
  rw [hlt, if_neg (by decide)]
  refine wpAny_execs_cons (wpAny_If (wpAny_isTrue_Compare1 (n_loc fm₁ (v := .int (n.fmod 7) t1) (wpAny_Constant_int (PyProof.Rows.eq_int (wpAny_truthy_bool ?_))) P.kind)))
  rw [hlt, if_pos (by decide)]
  obtain ⟨D, Ol, S, Gs, N, X1, r1, _⟩ := id st₁
  refine wpAny_execs_cons (wpAny_Delete (wpAny_deleteEach_cons (wpAny_delete_Subscript (n_loc fm₁ (v := .ref x.p.x) (n_loc fm₁ (v := .int k t2) ?_ P.key) P.held))))
  refine o_del (G.X.keeps fm₁.base) X1.inst X1.att.ns (st_del (k := k) (tk := t2) G fm₁.base (by omega) st₁ hk fun h₂ u₂ p' ex' ea ecv st₂ c₂ => wpAny_deleteEach_nil ?_)
  obtain ⟨fm₂, told₂⟩ := nx h₂ c₂
  have l3 := told₂.lt3
  refine wpAny_execs_cons (wpAny_Expr_any (n_bm2 F.plainAttrs_dict F.slot_dict_pop F.type_dict_pop (n_loc fm₂ (v := .ref x.td) ⟨_, rfl, DictOf_ob told₂.dict, n_loc fm₂ (v := .int k t2) (Constant_none (n_pop (k := k) (tk := t2) told₂.dict told₂.sys (by omega) fun v h₃ u₃ s₃ d₃ => ?_)) P.key⟩ P.told)))
  obtain ⟨V', H'⟩ := fin3 V G hx (Chg.refl _ _) X.fap X.fresh c₂ st₂ ea ex' ecv s₃ (told₂.del (k := k) d₃)
  exact wpAny_execs_nil (wpAny_execs_nil (wpAny_execs_nil (kk h₃ _ _ V' H')))
end
end
end Mine
namespace Mine
noncomputable section
section
variable {w : World} {A : Around} {R : Result → Shared → Prop} {s : Shared} {it acc : Value} {env : Env}
theorem t_startL1 {el t1 i1 t2 i2 : PySem.Expr} {f1 f2 : List PySem.Expr} {scope : Scope} {pos : Pos}
    (h0 : codeAny (MM w) A (.compLoop (.ListComp el [⟨t1, i1, f1, 0⟩, ⟨t2, i2, f2, 0⟩] scope pos) 1 it acc env) R s)
    (h : ∀ (Q : Value → Shared → Prop) E, Q it s → wpAny (MM w) A (pyIter it) Q E s) :
    codeAny (MM w) A (.compStart (.ListComp el [⟨t1, i1, f1, 0⟩, ⟨t2, i2, f2, 0⟩] scope pos) 1 it acc env) R s := by
  refine codeAny_of_tree ?_
  show wpAny _ A ((compStart (.ListComp el [⟨t1, i1, f1, 0⟩, ⟨t2, i2, f2, 0⟩] scope pos) 1 it acc env).onRaise (fun x => do noteFrame x env; standAt theWindowsPlace)) _ _ s
  refine wpAny_notedAt ?_
  unfold compStart
  show wpAny _ A (ask >>= _) _ _ s
  refine wpAny_bind (wpAny_askSetting (wpAny_ite ?_))
  split
  · first
      | exact wpAny_bind (wpAny_pure (wpAny_pure (And.intro rfl h0)))
      | exact wpAny_pure (And.intro rfl h0)
  · refine wpAny_bind (wpAny_rule ?_)
    first
      | exact (wpAny_bind (wpAny_standAt (wpAny_bind (h _ _ (wpAny_pure (And.intro rfl h0))))))
      | (show wpAny _ _ (standAt i2.pos >>= _) _ _ s; exact wpAny_bind (wpAny_standAt (wpAny_bind (h _ _ (wpAny_pure (And.intro rfl h0))))))
end
noncomputable abbrev sdE (p1 p2 p3 p4 p5 p6 p7 : Pos) (scope : Scope) (pos : Pos) : PySem.Expr :=
  .ListComp (.Name "side" p1) [⟨.Name "known" p2, .Name "log" p3, [], 0⟩, ⟨.Name "side" p4, .Subscript (.Name "log" p5) (.Name "known" p6) p7, [], 0⟩] scope pos
noncomputable abbrev sdScope : Scope := { kind := .function, names := [(Str.ofString ".0", .local), (Str.ofString "known", .local), (Str.ofString "side", .local), (Str.ofString "log", .free)], isGenerator := false, isCoroutine := false, more := [] }
noncomputable abbrev sidesOf (Lg : List (Int × Option Bool × Option Bool)) : List (Option Bool) := Lg.flatMap fun x => [x.2.1, x.2.2]
theorem sides_len (l : List (Int × Option Bool × Option Bool)) : (sidesOf l).length = 2 * l.length := by
  induction l with
  | nil => rfl
  | cons a l ih =>
    have ih' : (l.flatMap fun x => [x.2.1, x.2.2]).length = 2 * l.length := ih
    simp only [List.flatMap_cons, List.length_append, ih', List.length_cons, List.length_nil]
    omega
section
variable {w : World} {A : Around} {E : Value → Shared → Prop} {h₀ h hr hs : Heap} {g : Array GenState} {dr : Drawn} {t : Nat} {os : OsState} {R : Result → Shared → Prop} {cenv : Env} {C D I T : Addr} {vs ys₀ : List Value} {p1 p2 p3 p4 p5 p6 p7 : Pos} {scope : Scope} {pos : Pos}
/-- the inner clause -/
theorem sd_in (hh : A.handled = none) (hC : cenv.locals = C) (hkd : cenv.scope.kind = .function) (k_side : cenv.kindOf "side" = some .local) (IC : I ≠ C) (ID : I ≠ D) (IT : I ≠ T) (DC : D ≠ C) (TC : T ≠ C) (TD : T ≠ D) (hz : ys₀.length + vs.length < 1000)
    (kk : ∀ h' t' m', h'.Ns C m' → h'.PlainList D (ys₀ ++ vs).toArray → Chg [C, I, D] hs h' → R (.ok .next) ⟨h', g, dr, t', os⟩) :
    ∀ (n i : Nat) (h : Heap) (t : Nat) (m : Str → Option Value), i + n = vs.length → h.IsTupleIter I T i → h.IsTuple T vs.toArray → h.Ns C m → h.PlainList D (ys₀ ++ vs.take i).toArray → Chg [C, I, D] hs h →
      codeAny (MM w) A (.compLoop (sdE p1 p2 p3 p4 p5 p6 p7 scope pos) 1 (.ref I) (.ref D) cenv) R ⟨h, g, dr, t, os⟩ := by
  subst hC
  have hp : (cenv.scope.kind == .class || (cenv.scope.kind == .module && cenv.locals != cenv.globals)) = false := by rw [hkd]; rfl
  intro n
  induction n with
  | zero =>
    intro i h t m hi hit htp ns pl c
    have : i = vs.length := by omega
    subst this
    rw [List.take_length] at pl
    refine t_none (ps := p7) (target := .Name "side" p4) (ifs := []) (b := (do let _ ← call (.builtin "list.append") [.ref D, ← eval (.Name "side" p1) cenv])) rfl rfl rfl rfl ?_
    refine wpAny_pyNext_tuple_end (s := ⟨h, g, dr, t, os⟩) hh hit htp (by simp) fun h₁ x₁ => ⟨rfl, kk h₁ t m (ns.at' fun o e => x₁ _ o (Ne.symm IC) e) (pl.at fun o e => x₁ _ o (Ne.symm ID) e) ?_⟩
    exact c.trans fun b o nb e => x₁ b o (fun q => nb (by simp [q])) e
  | succ n ih =>
    intro i h t m hi hit htp ns pl c
    have hvi : i < vs.length := by omega
    refine t_some (E' := fun _ _ => False) rfl rfl rfl (show compTurn _ 1 _ _ _ = turnOf p7 (.Name "side" p4) (.ref I) [] cenv (do let _ ← call (.builtin "list.append") [.ref D, ← eval (.Name "side" p1) cenv]) _ 1 (.ref D) from rfl) ?_ (fun _ _ e => e.elim)
    refine wpAny_pyNext_tuple_item (s := ⟨h, g, dr, t, os⟩) hit htp (x := vs[i]) (by rw [List.getElem?_toArray, List.getElem?_eq_getElem hvi]) fun h₁ it₁ s₁ => ⟨_, rfl, ?_⟩
    replace s₁ : Heap.SameBut I h h₁ := s₁
    refine wpAny_of_eq (rfl : letOwnedTupleGo (.Name "side" p4) (.ref I) vs[i] = pure ()) ?_
    refine wpAny_assign_Name (wpAny_storeName_local k_side (ns.sameBut s₁ (Ne.symm IC)) (fun h₂ n₂ s₂ => ?_) hp)
    replace s₂ : Heap.SameBut cenv.locals h₁ h₂ := s₂
    refine tests0 ?_
    rw [if_pos rfl]
    have pl₂ : h₂.PlainList D (ys₀ ++ vs.take i).toArray := pl.at fun o e => (s₂.2 _ DC).trans ((s₁.2 _ (Ne.symm ID)).trans e)
    refine wpAny_bind (wpAny_Name (wpAny_loadName_local hkd k_side n₂ rfl (wpAny_bind (wpAny_list_append_plain pl₂ (fun h₃ p₃ s₃ => wpAny_pure ?_) (by rw [List.size_toArray, sizeLine_eq, List.length_append, List.length_take]; omega)))) (by decide))
    replace s₃ : Heap.SameBut D h₂ h₃ := s₃
    have e3 : (ys₀ ++ vs.take i).toArray.push vs[i] = (ys₀ ++ vs.take (i + 1)).toArray := by
      rw [take_succ' (List.getElem?_eq_getElem hvi)]
      simp
    rw [e3] at p₃
    refine ih (i + 1) h₃ _ _ (by omega) ?_ ?_ (n₂.at' fun o e => (s₃.2 _ (Ne.symm DC)).trans e) p₃ (c.trans fun b o nb e => ?_)
    · obtain ⟨o, ho, r⟩ := it₁
      exact ⟨o, (s₃.2 _ ID).trans ((s₂.2 _ IC).trans ho), r⟩
    · obtain ⟨o, ho, r⟩ := htp
      exact ⟨o, (s₃.2 _ TD).trans ((s₂.2 _ TC).trans ((s₁.2 _ (Ne.symm IT)).trans ho)), r⟩
    · simp only [List.mem_cons, List.not_mem_nil, or_false, not_or] at nb
      exact (s₃.2 b nb.2.2).trans ((s₂.2 b nb.1).trans ((s₁.2 b nb.2.1).trans e))
/-- the rounds over the log -/
theorem sd_out {d c : Addr} {kvs : List (Int × Value)} {Lg : List (Int × Option Bool × Option Bool)} {ep : Nat} (hh : A.handled = none) (hC : cenv.locals = C) (hkd : cenv.scope.kind = .function) (k_side : cenv.kindOf "side" = some .local) (k_known : cenv.kindOf "known" = some .local) (k_log : cenv.kindOf "log" = some .cell) (hcl : cenv.cells.lookup ("log" : Str) = some c)
    (hce : hr.IsCell c (some (.ref d))) (hda : hr.DictAt (IK w) d kvs ep) (lp : LogP hr kvs Lg) (ds : (d == sysModules) = false) (hz : Lg.length < 100)
    (fC : hr.objs.size ≤ C) (fI : hr.objs.size ≤ I) (fD : hr.objs.size ≤ D) (IC : I ≠ C) (ID : I ≠ D) (DC : D ≠ C)
    (kk : ∀ h' t' m', h'.Ns C m' → h'.PlainList D ((sidesOf Lg).map bv).toArray → Keep hr h' → R (.ok .next) ⟨h', g, dr, t', os⟩) :
    ∀ (n i : Nat) (h : Heap) (t : Nat) (m : Str → Option Value), i + n = kvs.length → h.IsKeyIter I d i kvs.length ep → h.Ns C m → h.PlainList D ((sidesOf (Lg.take i)).map bv).toArray → Keep hr h →
      codeAny (MM w) A (.compLoop (sdE p1 p2 p3 p4 p5 p6 p7 scope pos) 0 (.ref I) (.ref D) cenv) R ⟨h, g, dr, t, os⟩ := by
  subst hC
  have hp : (cenv.scope.kind == .class || (cenv.scope.kind == .module && cenv.locals != cenv.globals)) = false := by rw [hkd]; rfl
  have old : ∀ b o, hr.get? b = some o → b ≠ cenv.locals ∧ b ≠ I ∧ b ≠ D := fun b o e =>
    ⟨Nat.ne_of_lt (Nat.lt_of_lt_of_le (Heap.lt_size e) fC), Nat.ne_of_lt (Nat.lt_of_lt_of_le (Heap.lt_size e) fI), Nat.ne_of_lt (Nat.lt_of_lt_of_le (Heap.lt_size e) fD)⟩
  have kl : kvs.length = Lg.length := lp.len
  intro n
  induction n with
  | zero =>
    intro i h t m hi hit ns pl kp
    have : i = kvs.length := by omega
    subst this
    rw [kl, List.take_length] at pl
    refine t_none2 (ps := p3) (target := .Name "known" p2) (ifs := []) (iter := .Subscript (.Name "log" p5) (.Name "known" p6) p7) rfl rfl rfl ?_
    refine wpAny_pyNext_dict_end (knd := IK w) (s := ⟨h, g, dr, t, os⟩) hh hit (hda.keep kp) (by simp) fun h₁ x₁ => ⟨rfl, kk h₁ t m (ns.at' fun o e => x₁ _ o (Ne.symm IC) e) (pl.at fun o e => x₁ _ o (Ne.symm ID) e) fun b o e => x₁ b o (old b o e).2.1 (kp b o e)⟩
  | succ n ih =>
    intro i h t m hi hit ns pl kp
    have hlt : i < kvs.length := by omega
    obtain ⟨x, hx⟩ : ∃ x, kvs[i]? = some x := ⟨_, List.getElem?_eq_getElem hlt⟩
    obtain ⟨y, hy⟩ : ∃ y, Lg[i]? = some y := ⟨_, List.getElem?_eq_getElem (kl ▸ hlt)⟩
    obtain ⟨T, e1, e2⟩ := lp.2 i x y hx hy
    have hva : valueAt kvs x.1 = some (.ref T) := va_mem (dict_nd hda.dictOf) (by rw [← e1]; exact List.mem_of_getElem? hx)
    refine t_some2 (E' := fun _ _ => False) (ps := p3) (target := .Name "known" p2) (ifs := []) (iter := .Subscript (.Name "log" p5) (.Name "known" p6) p7) rfl rfl rfl rfl (fun _ => rfl) ?_ (fun _ _ e => e.elim)
    refine wpAny_pyNext_dict_item (knd := IK w) (s := ⟨h, g, dr, t, os⟩) hit (hda.keep kp) (k := x.1) (v := x.2) hx fun key h₁ hkey it₁ s₁ => ⟨_, rfl, ?_⟩
    replace s₁ : Heap.SameBut I h h₁ := s₁
    obtain ⟨tk, rfl⟩ := Value.isInt_shape hkey
    refine letGo_keyiter (s' := ⟨h₁, g, dr, t, os⟩) it₁ ?_
    refine wpAny_assign_Name (wpAny_storeName_local k_known (ns.sameBut s₁ (Ne.symm IC)) (fun h₂ n₂ s₂ => ?_) hp)
    replace s₂ : Heap.SameBut cenv.locals h₁ h₂ := s₂
    have kp₂ : Keep hr h₂ := fun b o e => (s₂.2 b (old b o e).1).trans ((s₁.2 b (old b o e).2.1).trans (kp b o e))
    have it₂ : h₂.IsKeyIter I d (i + 1) kvs.length ep := it₁.at fun o e => (s₂.2 _ IC).trans e
    have pl₂ : h₂.PlainList D ((sidesOf (Lg.take i)).map bv).toArray := pl.at fun o e => (s₂.2 _ DC).trans ((s₁.2 _ (Ne.symm ID)).trans e)
    refine tests0 ?_
    rw [if_pos rfl]
    have ce₂ : h₂.IsCell c (some (.ref d)) := hce.keeps kp₂
    refine Subscript_ (wpAny_Name (wpAny_loadName_cell hkd k_log hcl ce₂ ?_) (by decide))
    refine wpAny_Name (wpAny_loadName_local hkd k_known n₂ rfl (d_item (k := x.1) (tk := tk) (DictOf_at hda.dictOf fun o e => kp₂ _ o e) ds hva fun t₃ => ?_)) (by decide)
    have tT : h₂.IsTuple T #[bv y.2.1, bv y.2.2] := ⟨_, kp₂ _ _ e2, rfl, _, rfl⟩
    refine wpAny_pyIter_tuple (s := ⟨h₂, g, dr, t₃, os⟩) tT ?_
    have k₃ : Keep h₂ (h₂.push { cls := .type "tuple_iterator", data := .fields #[.ref T, .int 0 0] }) := fun b o e => Heap.get?_push_of_some _ e
    have it₃ : (h₂.push { cls := .type "tuple_iterator", data := .fields #[.ref T, .int 0 0] }).IsTupleIter h₂.objs.size T 0 := ⟨_, Heap.get?_push_size _ rfl, rfl, rfl⟩
    show codeAny _ _ _ _ ⟨h₂.push { cls := .type "tuple_iterator", data := .fields #[.ref T, .int 0 0] }, g, dr, t₃, os⟩
    generalize h₂.push { cls := .type "tuple_iterator", data := .fields #[.ref T, .int 0 0] } = h₃ at k₃ it₃ ⊢
    refine t_startL1 ?_ (fun Q E q => wpAny_pyIter_tupleiter it₃ q)
    have TLt : T < hr.objs.size := Heap.lt_size e2
    have Clt : cenv.locals < h₂.objs.size := n₂.lt
    have Dlt : D < h₂.objs.size := let ⟨_, ho⟩ := pl₂; Heap.lt_size ho
    have Ilt : I < h₂.objs.size := let ⟨_, ho, _⟩ := it₂; Heap.lt_size ho
    have hl2 : ((sidesOf (Lg.take i)).map bv).length ≤ 2 * i := by
      rw [List.length_map]
      rw [sides_len, List.length_take]; omega
    refine sd_in (hs := h₃) (ys₀ := (sidesOf (Lg.take i)).map bv) (vs := [bv y.2.1, bv y.2.2]) (T := T) hh rfl hkd k_side (Nat.ne_of_gt Clt) (Nat.ne_of_gt Dlt) (Nat.ne_of_gt (Heap.lt_size (kp₂ _ _ e2))) DC (Nat.ne_of_lt (Nat.lt_of_lt_of_le TLt fC)) (Nat.ne_of_lt (Nat.lt_of_lt_of_le TLt fD)) (by show _ + 2 < _; omega) ?_ 2 0 h₃ _ _ rfl it₃ (by obtain ⟨o, ho, r⟩ := tT; exact ⟨o, k₃ _ _ ho, r⟩) (n₂.keeps k₃) (by
        have := pl₂.at (h' := h₃) fun o e => k₃ _ o e
        simpa using this) (Chg.refl _ _)
    intro h₄ t₄ m₄ n₄ pl₄ c₄
    refine ⟨⟨_, rfl⟩, ih (i + 1) h₄ t₄ m₄ (by omega) ?_ n₄ ?_ fun b o e => ?_⟩
    · exact (it₂.at fun o e => k₃ _ o e).at fun o e => c₄ _ o (by
        simp only [List.mem_cons, List.not_mem_nil, or_false, not_or]
        exact ⟨IC, Nat.ne_of_lt Ilt, ID⟩) e
    · rw [take_succ' hy]
      have : (sidesOf (Lg.take i ++ [y])).map bv = (sidesOf (Lg.take i)).map bv ++ [bv y.2.1, bv y.2.2] := by simp [sidesOf, List.flatMap_append]
      rw [this]; exact pl₄
    · refine c₄ b o ?_ (k₃ b o (kp₂ b o e))
      simp only [List.mem_cons, List.not_mem_nil, or_false, not_or]
      exact ⟨(old b o e).1, Nat.ne_of_lt (Heap.lt_size (kp₂ b o e)), (old b o e).2.2⟩
variable {L : Addr} {m : Str → Option Value} {Q : Value → Shared → Prop}
/-- [side for known in log for side in log[known]] in the law -/
theorem sides_ok {d : Addr} {Lg : List (Int × Option Bool × Option Bool)} (hh : A.handled = none) (hce : h.IsCell (L + 1) (some (.ref d))) (lg : LogAt w h d Lg) (ds : (d == sysModules) = false) (hz : Lg.length < 100)
    (kk : ∀ h' t' D, Keep h h' → h.get? D = none → h'.PlainList D ((sidesOf Lg).map bv).toArray → Q (.ref D) ⟨h', g, dr, t', os⟩) :
    wpAny (MM w) A (eval (sdE p1 p2 p3 p4 p5 p6 p7 sdScope pos) (envL w L)) Q E ⟨h, g, dr, t, os⟩ := by
  obtain ⟨kvs, dd, lp⟩ := lg
  obtain ⟨ep, hda⟩ := dd.dictAt
  rw [eval_ListComp]
  refine wpAny_comprehension_free (use := none) (cl := [("log", L + 1)]) rfl (fun _ => rfl) rfl rfl (by decide) ?_
  refine n_cell (c := L + 1) hce ?_
  refine wpAny_pyIter_dict (knd := IK w) (s := ⟨h, g, dr, t, os⟩) ds hda ?_
  have k₁ : Keep h (h.push { cls := .type "dict_keyiterator", data := .fields #[.ref d, .int 0 0, .int kvs.length 0, .int ep 0] }) := fun b o e => Heap.get?_push_of_some _ e
  have it₁ : (h.push { cls := .type "dict_keyiterator", data := .fields #[.ref d, .int 0 0, .int kvs.length 0, .int ep 0] }).IsKeyIter h.objs.size d 0 kvs.length ep := ⟨_, Heap.get?_push_size _ rfl, rfl, rfl⟩
  have z₁ : (h.push { cls := .type "dict_keyiterator", data := .fields #[.ref d, .int 0 0, .int kvs.length 0, .int ep 0] }).objs.size = h.objs.size + 1 := Heap.size_push ..
  show wpAny _ _ _ _ _ ⟨h.push { cls := .type "dict_keyiterator", data := .fields #[.ref d, .int 0 0, .int kvs.length 0, .int ep 0] }, g, dr, t, os⟩
  generalize h.push { cls := .type "dict_keyiterator", data := .fields #[.ref d, .int 0 0, .int kvs.length 0, .int ep 0] } = h₁ at k₁ it₁ z₁ ⊢
  refine wpAny_newObj_type (s := ⟨h₁, g, dr, t, os⟩) (wpAny_newFunctionEnv (by decide) (by intro y hy; simp at hy) (fun h₃ n₃ s₃ => ?_) rfl)
  dsimp only at n₃ s₃ ⊢
  generalize hH : h₁.push { cls := .type "list", dict := none, data := .seq ([] : List Value).toArray } = h₂ at n₃ s₃ ⊢
  have k₂ : Keep h₁ h₂ := fun b o e => hH ▸ Heap.get?_push_of_some _ e
  have z₂ : h₂.objs.size = h₁.objs.size + 1 := by rw [← hH, Heap.size_push]
  have up₃ : ∀ b o, h₂.get? b = some o → h₃.get? b = some o := fun b o e => s₃.extBut b o (Nat.ne_of_lt (Heap.lt_size e)) (Heap.get?_push_of_some _ e)
  have kr : Keep h h₃ := k₁.trans (k₂.trans up₃)
  have pl₃ : h₃.PlainList h₁.objs.size ([] : List Value).toArray := ⟨_, up₃ _ _ (hH ▸ Heap.get?_push_size _ rfl)⟩
  have it₃ : h₃.IsKeyIter h.objs.size d 0 kvs.length ep := it₁.at fun o e => up₃ _ o (k₂ _ o e)
  have q1 : h.objs.size ≤ h₂.objs.size := by omega
  have q2 : h.objs.size ≤ h₁.objs.size := by omega
  have q3 : h.objs.size ≠ h₂.objs.size := by omega
  have q4 : h.objs.size ≠ h₁.objs.size := by omega
  have q5 : h₁.objs.size ≠ h₂.objs.size := by omega
  have go : ∀ t', codeAny (MM w) A (.compLoop (sdE p1 p2 p3 p4 p5 p6 p7 sdScope pos) 0 (.ref h.objs.size) (.ref h₁.objs.size) (compEnvC sdScope [("log", L + 1)] h₂.objs.size (envL w L))) (compPost (MM w) A E none Q (.ref h₁.objs.size) h₂.objs.size) ⟨h₃, g, dr, t', os⟩ := by
    intro t'
    refine sd_out (hr := h) (C := h₂.objs.size) (I := h.objs.size) (D := h₁.objs.size) (c := L + 1) (d := d) (kvs := kvs) (Lg := Lg) (ep := ep) hh rfl (by rfl) (by rfl) (by rfl) (by rfl) (by rfl) hce hda lp ds hz q1 (Nat.le_refl _) q2 q3 q4 q5 ?_ kvs.length 0 h₃ _ _ (by omega) it₃ n₃ pl₃ kr
    intro h₄ t₄ m₄ n₄ pl₄ k₄
    refine ⟨m₄, n₄, fun h₅ s₅ => ?_⟩
    replace s₅ : Heap.SameBut h₂.objs.size h₄ h₅ := s₅
    exact kk h₅ _ h₁.objs.size (fun b o e => (s₅.2 b (Nat.ne_of_lt (Nat.lt_of_lt_of_le (Heap.lt_size e) q1))).trans (k₄ b o e)) (low_size (Keep.refl h) q2) (pl₄.at fun o e => (s₅.2 _ q5).trans e)
  exact codeAny_compStart_list (go _) (wpAny_pyIter_keyiter it₃ (go _))
end
end
end Mine
namespace Mine
noncomputable section
theorem f_consume (w : World) : findIn (KK w) (.ref 170) "consume_changelog" = some (some (.ref 122)) := by kernel_rfl
theorem live_ne {h : Heap} {a b : Addr} (hb : ∃ o, h.get? b = some o) (ha : h.get? a = none) : b ≠ a := by
  rintro rfl
  obtain ⟨o, ho⟩ := hb
  rw [ha] at ho; cases ho
section
variable {w : World} {A : Around} {E : Value → Shared → Prop} {h₀ h : Heap} {L RA LA : Addr} {m : Str → Option Value} {g : Array GenState} {dr : Drawn} {t : Nat} {os : OsState} {ex : List Addr} {rows : List Row} {logs : List LogE} {R : Flow → Shared → Prop} {n : Int} {tn : Tok} {x : Row} {j : Nat} {k wi : Int} {t1 t2 t3 t4 : Tok}
/-- l[j] = v -/
theorem n_lset {a : Addr} {items : Array Value} {j : Nat} {u : Tok} {v : Value} {Q : Unit → Shared → Prop} (hl : h.PlainList a items) (hj : j < items.size) (hz : items.size < 1000)
    (kk : ∀ h', h'.PlainList a (items.setIfInBounds j v) → Heap.SameBut a h h' → Q () ⟨h', g, dr, t, os⟩) : wpAny (MM w) A (setItem (.ref a) (.int j u) v) Q E ⟨h, g, dr, t, os⟩ := by
  obtain ⟨nn, ho⟩ := hl
  refine ki_setAt (s := ⟨h, g, dr, t, os⟩) (n := nn) ho (by omega) (by omega) (by omega) ?_
  refine kk _ ?_ (Heap.SameBut.update ..)
  rw [Int.toNat_natCast]
  exact ⟨_, PySem.IsL.update (n := nn) ho (·.setIfInBounds j v)⟩
theorem IsLog.le3 {Lg : List (Int × Option Bool × Option Bool)} {tv : Int → Option (Option Bool)} {bf : Int → Option Bool} (i : IsLog Lg tv bf) : Lg.length ≤ 3 :=
  len_of_keys (ks := K3) i.nd fun y hy => ((i.mem y.1 y.2.1 y.2.2).mp hy).1
theorem told_jn {T : List (Int × Value)} {tv : Int → Option (Option Bool)} (hv : ∀ k, valueAt T k = (tv k).map bv) (k : Int) : (valueAt T k).getD .none = bv (jn tv k) := by
  rw [hv]
  show ((tv k).map bv).getD .none = bv (tv k).join
  cases tv k <;> rfl
/-- consume the log -/
theorem act4 (G : Good0 w h₀) (hh : A.handled = none) (hroom : A.depth + 8 < recursionLimit) (hu : A.units + 100 < cLine) (V : LawI w h₀ h L RA LA ex rows logs m) (hx : rows[j]? = some x) (P : Pro m n tn j x k wi t1 t2 t3 t4) (hlt : n.fmod 7 = 4) (hnl : logs.length < 500)
    (kk : ∀ h' t' y e, LawI w h₀ h' L RA LA ex (rows.set j y) (logs ++ [e]) m → Hold ex h h' → wpAny (MM w) A (execs ((turnB w).drop 8) (envL w L)) R E ⟨h', g, dr, t', os⟩) :
    wpAny (MM w) A (execs ((turnB w).drop 6) (envL w L)) R E ⟨h, g, dr, t, os⟩ := by
  refine fresh_no V P (by omega) fun u₁ => ?_
  have hm := List.mem_of_getElem? hx
  have X := V.row x hm
  refine wpAny_execs_cons (wpAny_If (wpAny_isTrue_Compare1 (n_loc V.fm (v := .int (n.fmod 7) t1) (wpAny_Constant_int (PyProof.Rows.lt_int (wpAny_truthy_bool ?_))) P.kind)))
  rw [decide_eq_false (by omega), if_neg (by decide)]
  refine wpAny_execs_cons (wpAny_If (wpAny_isTrue_Compare1 (n_loc V.fm (v := .int (n.fmod 7) t1) (wpAny_Constant_int (PyProof.Rows.eq_int (wpAny_truthy_bool ?_))) P.kind)))
  rw [hlt, if_neg (by decide)]
  refine wpAny_execs_cons (wpAny_If (wpAny_isTrue_Compare1 (n_loc V.fm (v := .int (n.fmod 7) t1) (wpAny_Constant_int (PyProof.Rows.eq_int (wpAny_truthy_bool ?_))) P.kind)))
  rw [hlt, if_neg (by decide)]
  refine wpAny_execs_cons (wpAny_If (wpAny_isTrue_Compare1 (n_loc V.fm (v := .int (n.fmod 7) t1) (wpAny_Constant_int (PyProof.Rows.eq_int (wpAny_truthy_bool ?_))) P.kind)))
  rw [hlt, if_pos (by decide)]
  -- log = held.consume_changelog()
  obtain ⟨D, Ol, S, Gs, N, X1, r1, _⟩ := id X.st
  refine wpAny_execs_cons (wpAny_Assign_Name (n_um0 G V.fm X1 (f_consume w) (fn122 w) (st_consume G V.fm.base (by omega) hh X.st fun h₁ v₁ p' d Lg st₁ px ad ⟨e, pc, el⟩ c₁ dn dq lg₁ il => ?_) rfl (by kernel_rfl) P.held))
  have nb : ∀ a ∈ base L RA LA, a ∉ x.own := fun a ha q => V.ob x hm a q ha
  have nbp : ∀ a ∈ base L RA LA, a ∉ x.p.addrs := fun a ha q => nb a ha (List.mem_cons_of_mem _ (List.mem_cons_of_mem _ q))
  obtain ⟨q1, q2, q3⟩ := X.parts
  obtain ⟨⟨a1, a2, a3, a4, a5⟩, ⟨b1, b2, b3⟩, ⟨e1, e2, e3⟩, f1⟩ := V.bne
  have lowp : ∀ a ∈ x.p.addrs, h₀.get? a = none := fun a ha => X.low a (List.mem_cons_of_mem _ (List.mem_cons_of_mem _ ha))
  have n85 : 85 ∉ x.p.addrs := fun q => by
    have := lowp 85 q
    rw [G.X 85 _ rfl] at this; cases this
  have fm₁ := V.fm.chg c₁ (nbp L (by simp)) lowp
  obtain ⟨v1, cl₁⟩ := cell_chg V.c1 c₁ (nbp _ (by simp))
  have cl2₁ := cell_chg V.c2 c₁ (nbp _ (by simp))
  have lr₁ := list_chg V.lr c₁ (nbp _ (by simp))
  have ll₁ := list_chg V.ll c₁ (nbp _ (by simp))
  have cd₁ := V.cd.chg c₁ (nbp 81 (by simp)) n85
  have told₁ := X.told.at fun o e => c₁ _ o q2 e
  have bdn : x.bd ∉ x.own := X.sep _ (by simp)
  have befo₁ := X.befo.at fun o e => c₁ _ o (fun q => bdn (List.mem_cons_of_mem _ (List.mem_cons_of_mem _ q))) e
  have dB : ∀ b ∈ base L RA LA, d ≠ b := fun b hb q => by
    rcases dq with u | u
    · exact (V.ro x hm d (List.mem_cons_of_mem _ (List.mem_cons_of_mem _ (mem_cvL.mpr u)))).1 (q ▸ hb)
    · exact live_ne (V.blive b hb) (low_size (Keep.refl h) u) q.symm
  have sd : (d == sysModules) = false := by
    rcases dq with u | u
    · exact X.cvs d u
    · exact G.sys V.fm.base u
  have tdb : ∀ b ∈ base L RA LA, x.td ≠ b := fun b hb q => nb b hb (by simp [← q])
  have bdb : ∀ b ∈ base L RA LA, x.bd ≠ b := fun b hb q => (V.ro x hm x.bd (by simp)).1 (q ▸ hb)
  refine m_storeC (v := .ref d) fm₁ cl₁ (Nat.succ_ne_self _) (V.low _ (by simp)) rfl rfl rfl fun h₂ fm₂ ce₂ s₂ => ?_
  have told₂ := told₁.at fun o e => (s₂.2 _ (tdb _ (by simp))).trans e
  have befo₂ := befo₁.at fun o e => (s₂.2 _ (bdb _ (by simp))).trans e
  have lg₂ : LogAt w h₂ d Lg := lg₁.chg (Chg.of_same s₂ (List.mem_singleton.mpr rfl)) (by rw [List.mem_singleton]; exact dB _ (by simp)) fun a ha => by rw [List.mem_singleton] at ha; subst ha; exact cell_notup cl₁
  -- the check of the log
  refine wpAny_execs_cons (wpAny_If (isTrue_or (wpAny_isTrue_Compare1 (n_cell (c := L + 1) ce₂ ?_))))
  refine n_call2 G fm₂ (g_lawlog w) (by kernel_rfl) (n_loc fm₂ (v := .ref x.td) (n_loc fm₂ (v := .ref x.bd) ⟨fm₂.base, lawlog_ok (tj := jn x.tv) (bj := x.bf) G fm₂.base (by omega) hh told₂.dict befo₂.dict told₂.sys befo₂.sys (fun k _ => told_jn told₂.val k) befo₂.val fun h₃ v₃ d' dn' sd' lg' k₃ => ?_⟩ P.before) P.told)
  refine ne_logs (lg₂.keep k₃) lg' il (llog_is x.tv x.bf) sd sd' (by omega) (wpAny_truthy_bool ?_)
  rw [if_neg (by decide)]
  have fm₃ := (fm₂.keep k₃).here
  have l3 := il.le3
  refine isTrue_or (isTrue_not (isTrue_plain (n_call1 G fm₃ (g_bare w) (by kernel_rfl) (sides_ok (d := d) (Lg := Lg) hh (ce₂.keeps k₃) (lg₂.keep k₃) sd (by omega) fun h₄ v₄ D₄ k₄ nD₄ pl₄ => ⟨fm₃.base.trans k₄, bare_ok (us := sidesOf Lg) G (fm₃.base.trans k₄) (by omega) (by omega) hh pl₄.isList (by rw [sides_len]; omega) fun h₅ v₅ k₅ => wpAny_truthy_bool ?_⟩))))
  rw [if_neg (by decide)]
  refine isTrue_or_nil ?_
  rw [if_neg (by decide)]
  refine wpAny_execs_nil ?_
  -- logs.append
  have k₂₅ : Keep h₂ h₅ := k₃.trans (k₄.trans k₅)
  have fm₅ := (fm₂.keep k₂₅).here
  have ll₂ := ll₁.at fun o e => (s₂.2 _ e2).trans e
  have ll₅ := ll₂.at fun o e => k₂₅ _ o e
  have told₅ := told₂.at fun o e => k₂₅ _ o e
  have befo₅ := befo₂.at fun o e => k₂₅ _ o e
  obtain ⟨nn, hoLA⟩ := id ll₅
  refine wpAny_execs_cons (wpAny_Expr_any (n_bm1 F.plainAttrs_list slot_list_append type_list_append (n_loc fm₅ (v := .ref LA) ⟨_, rfl, ⟨_, hoLA, rfl, rfl⟩, wpAny_Tuple (args_cons (n_cell (c := L + 1) (ce₂.keeps k₂₅) (args_cons (n_call2 G fm₅ (g_lawlog w) (by kernel_rfl) (n_loc fm₅ (v := .ref x.td) (n_loc fm₅ (v := .ref x.bd) ⟨fm₅.base, lawlog_ok (tj := jn x.tv) (bj := x.bf) G fm₅.base (by omega) hh told₅.dict befo₅.dict told₅.sys befo₅.sys (fun k _ => told_jn told₅.val k) befo₅.val fun h₆ v₆ d₂ dn₂ sd₂ lg₆ k₆ => args_nil ⟨by rw [sizeLine_eq]; show 2 ≤ _; decide, ?_⟩⟩ P.before) P.told)) rfl)) rfl)⟩ V.ml)))
  have l3t := told₅.lt3
  dsimp only
  have k₇ : Keep h₆ (h₆.push (tup2 (.ref d) (.ref d₂))) := fun b o e => Heap.get?_push_of_some _ e
  have hTup : (h₆.push (tup2 (.ref d) (.ref d₂))).get? h₆.objs.size = some (tup2 (.ref d) (.ref d₂)) := Heap.get?_push_size _ rfl
  show wpAny _ _ _ _ _ ⟨h₆.push (tup2 (.ref d) (.ref d₂)), g, dr, _, os⟩
  generalize h₆.push (tup2 (.ref d) (.ref d₂)) = h₇ at k₇ hTup ⊢
  have k₅₇ : Keep h₅ h₇ := k₆.trans k₇
  refine wpAny_list_append_plain (s := ⟨h₇, g, dr, _, os⟩) (ll₅.at fun o e => k₅₇ _ o e) (fun h₈ pl₈ s₈ => ?_) (by rw [sizeLine_eq, List.size_toArray, List.length_map]; omega)
  replace s₈ : Heap.SameBut LA h₇ h₈ := s₈
  have k₂₇ : Keep h₂ h₇ := k₂₅.trans k₅₇
  have fm₈ := ((fm₂.keep k₂₇).here).turn s₈ e1 (V.low _ (by simp))
  have told₈ := (told₂.at fun o e => k₂₇ _ o e).at fun o e => (s₈.2 _ (tdb _ (by simp))).trans e
  -- rows[place] = [held, told, told.copy(), []]
  refine wpAny_execs_cons (wpAny_Assign_Subscript (wpAny_List (args_cons (n_loc fm₈ (v := .ref x.p.x) (args_cons (n_loc fm₈ (v := .ref x.td) (args_cons (n_bm0 F.plainAttrs_dict F.slot_dict_copy F.type_dict_copy (n_loc fm₈ (v := .ref x.td) ⟨_, rfl, DictOf_ob told₈.dict, n_dcopy told₈.dict told₈.sys (by omega) fun h₉ d₉ k₉ => args_cons (wpAny_List (args_nil ⟨Nat.zero_le _, args_nil ⟨by rw [sizeLine_eq]; show 4 ≤ _; decide, ?_⟩⟩)) rfl⟩ P.told)) rfl) P.told) rfl) P.held) rfl)))
  dsimp only
  have k₁₀ : Keep h₉ (h₉.push { cls := .type "list", data := .seq ([] : List Value).toArray }) := fun b o e => Heap.get?_push_of_some _ e
  have p₁₀ : (h₉.push { cls := .type "list", data := .seq ([] : List Value).toArray }).PlainList h₉.objs.size ([] : List Value).toArray := ⟨_, Heap.get?_push_size _ rfl⟩
  generalize h₉.push { cls := .type "list", data := .seq ([] : List Value).toArray } = h₁₀ at k₁₀ p₁₀ ⊢
  have k₁₁ : Keep h₁₀ (h₁₀.push { cls := .type "list", data := .seq #[.ref x.p.x, .ref x.td, .ref h₈.objs.size, .ref h₉.objs.size] }) := fun b o e => Heap.get?_push_of_some _ e
  have l₁₁ : (h₁₀.push { cls := .type "list", data := .seq #[.ref x.p.x, .ref x.td, .ref h₈.objs.size, .ref h₉.objs.size] }).IsList h₁₀.objs.size #[.ref x.p.x, .ref x.td, .ref h₈.objs.size, .ref h₉.objs.size] := ⟨_, Heap.get?_push_size _ rfl, rfl, _, rfl⟩
  show wpAny _ _ _ _ _ ⟨h₁₀.push { cls := .type "list", data := .seq #[.ref x.p.x, .ref x.td, .ref h₈.objs.size, .ref h₉.objs.size] }, g, dr, _, os⟩
  generalize h₁₀.push { cls := .type "list", data := .seq #[.ref x.p.x, .ref x.td, .ref h₈.objs.size, .ref h₉.objs.size] } = h₁₁ at k₁₁ l₁₁ ⊢
  have k₈₁₁ : Keep h₈ h₁₁ := k₉.trans (k₁₀.trans k₁₁)
  have fm₁₁ := (fm₈.keep k₈₁₁).here
  have lr₂ := lr₁.at fun o e => (s₂.2 _ b2).trans e
  have lr₈ := (lr₂.at fun o e => k₂₇ _ o e).at fun o e => (s₈.2 _ f1).trans e
  have jl : j < rows.length := by
    rcases Nat.lt_or_ge j rows.length with q | q
    · exact q
    · rw [List.getElem?_eq_none q] at hx; cases hx
  have n3 := V.n3
  refine n_loc fm₁₁ (v := .ref RA) (n_loc fm₁₁ (v := .int j t4) (n_lset (lr₈.at fun o e => k₈₁₁ _ o e) (by rw [List.size_toArray, List.length_map]; exact jl) (by rw [List.size_toArray, List.length_map]; omega) fun h₁₂ lr₁₂ s₁₂ => ?_) P.place) V.mr
  -- the new state
  have c₁₂ : Chg [L + 1, LA, RA] h₁ h₁₂ := fun b o nq e => by
    simp only [List.mem_cons, List.not_mem_nil, or_false, not_or] at nq
    exact (s₁₂.2 b nq.2.2).trans (k₈₁₁ b o ((s₈.2 b nq.2.1).trans (k₂₇ b o ((s₂.2 b nq.1).trans e))))
  have sub3 : ∀ a ∈ [L + 1, LA, RA], a ∈ base L RA LA := fun a ha => by
    simp only [List.mem_cons, List.not_mem_nil, or_false] at ha
    rcases ha with rfl | rfl | rfl <;> simp
  have nt₁ : ∀ a ∈ [L + 1, LA, RA], ∀ u v, h₁.get? a ≠ some (tup2 u v) := fun a ha => by
    simp only [List.mem_cons, List.not_mem_nil, or_false] at ha
    rcases ha with rfl | rfl | rfl
    · exact cell_notup cl₁
    · exact list_notup ll₁.isList
    · exact list_notup lr₁.isList
  have c : Chg ((L + 1) :: LA :: RA :: x.p.addrs) h h₁₂ := (c₁.mono fun a ha => by simp only [List.mem_cons]; exact .inr (.inr (.inr (by simpa using ha)))).trans (c₁₂.mono fun a ha => by
    simp only [List.mem_cons, List.not_mem_nil, or_false] at ha ⊢
    rcases ha with q | q | q
    · exact .inl q
    · exact .inr (.inl q)
    · exact .inr (.inr (.inl q)))
  have padb : ∀ a ∈ p'.addrs, a ∉ base L RA LA := fun a ha q => by
    rcases ad a ha with u | u
    · exact nbp a q u
    · exact live_ne (V.blive a q) (low_size (Keep.refl h) u) rfl
  have eB : e ∉ base L RA LA := fun q => live_ne (V.blive e q) (low_size (Keep.refl h) el) rfl
  have st₁₂ : St w h₀ h₁₂ p' x.tv (jn x.tv) (fun _ => false) := st₁.chg c₁₂ nt₁ (fun a ha q => padb a ha (sub3 a q)) fun d' q u => by
    rw [pc] at q; injection q with q; subst q
    exact eB (sub3 _ u)
  have told₁₂ := told₁.at fun o e => c₁₂ _ o (fun q => tdb _ (sub3 _ q) rfl) e
  have lv1 : ∀ a ∈ p'.addrs, ∃ o, h₁.get? a = some o := st₁.live
  have up18 : ∀ a, a ∉ base L RA LA → (∃ o, h₁.get? a = some o) → ∃ o, h₈.get? a = some o := fun a na ⟨o, ho⟩ => ⟨o, (s₈.2 a (fun q => na (by simp [q]))).trans (k₂₇ a o ((s₂.2 a (fun q => na (by simp [q]))).trans ho))⟩
  have tdlive : ∃ o, h₁.get? x.td = some o := dict_live told₁.dict
  have tdnb : x.td ∉ base L RA LA := fun q => tdb _ q rfl
  obtain ⟨Le, _, dde, _⟩ := st₁.cvlog pc
  have elive : ∃ o, h₁.get? e = some o := dict_live dde
  -- the three new addresses
  have bN : h₈.get? h₈.objs.size = none := low_size (Keep.refl _) (Nat.le_refl _)
  have fN : h₉.get? h₉.objs.size = none := low_size (Keep.refl _) (Nat.le_refl _)
  have rN : h₁₀.get? h₁₀.objs.size = none := low_size (Keep.refl _) (Nat.le_refl _)
  have blv₈ : ∀ b ∈ base L RA LA, ∃ o, h₈.get? b = some o := fun b hb => by
    have b₁ : ∀ b ∈ base L RA LA, b ≠ LA → b ≠ L + 1 → ∃ o, h₈.get? b = some o := fun b hb n1 n2 => by
      obtain ⟨o, ho⟩ := V.blive b hb
      exact ⟨o, (s₈.2 b n1).trans (k₂₇ b o ((s₂.2 b n2).trans (c₁ b o (nbp b hb) ho)))⟩
    by_cases n1 : b = LA
    · rw [n1]; obtain ⟨_, ho⟩ := pl₈; exact ⟨_, ho⟩
    · by_cases n2 : b = L + 1
      · obtain ⟨o, ho, _⟩ := ce₂
        rw [n2]; exact ⟨o, (s₈.2 _ (Ne.symm e2)).trans (k₂₇ _ o ho)⟩
      · exact b₁ b hb n1 n2
  have c₈ : Chg ((L + 1) :: LA :: x.p.addrs) h h₈ := fun b o nq e => by
    simp only [List.mem_cons, not_or] at nq
    exact (s₈.2 b nq.2.1).trans (k₂₇ b o ((s₂.2 b nq.1).trans (c₁ b o (by simpa using nq.2.2) e)))
  have hl₈ : ∀ a ∈ (L + 1) :: LA :: x.p.addrs, a ∈ base L RA LA ∨ ∃ x, rows[j]? = some x ∧ a ∈ x.own := fun a ha => by
    rcases List.mem_cons.mp ha with q | ha
    · exact .inl (by simp [q])
    · rcases List.mem_cons.mp ha with q | ha
      · exact .inl (by simp [q])
      · exact .inr ⟨x, hx, List.mem_cons_of_mem _ (List.mem_cons_of_mem _ ha)⟩
  have newK : ∀ hk a, Keep h₈ hk → hk.get? a = none → NewTo h L RA LA ex rows logs j a := fun hk a kk' ha => V.newTo (l := (L + 1) :: LA :: x.p.addrs) (hk := hk) (fun b o nq e => kk' b o (c₈ b o nq e)) hl₈ (fun b hb => let ⟨o, ho⟩ := blv₈ b hb; ⟨o, kk' b o ho⟩) ha
  have newH : ∀ a, h.objs.size ≤ a → NewTo h L RA LA ex rows logs j a := fun a ha => V.newTo (l := []) (hk := h) (Chg.refl _ _) (fun a ha => nomatch ha) V.blive (low_size (Keep.refl h) ha)
  have bdlive : ∃ o, h₉.get? h₈.objs.size = some o := dict_live d₉
  have kb₁₂ : Keep h₀ h₁₂ := (fm₁₁.base).sameBut s₁₂ (V.low _ (by simp))
  have low8 : ∀ hk a, Keep h₀ hk → hk.get? a = none → h₀.get? a = none := fun hk a kq ha => by
    cases q : h₀.get? a with
    | none => rfl
    | some o => rw [kq a o q] at ha; cases ha
  have nr : ∀ b, b ∈ base L RA LA → h₈.objs.size ≠ b ∧ h₉.objs.size ≠ b ∧ h₁₀.objs.size ≠ b := fun b hb => by
    have lb := blv₈ b hb
    refine ⟨fun q => live_ne lb bN q.symm, fun q => ?_, fun q => ?_⟩
    · obtain ⟨o, ho⟩ := lb; exact live_ne ⟨o, k₉ b o ho⟩ fN q.symm
    · obtain ⟨o, ho⟩ := lb; exact live_ne ⟨o, k₁₀ b o (k₉ b o ho)⟩ rN q.symm
  -- nobody's
  have ne8 : ∀ a, (∃ o, h₈.get? a = some o) → a ≠ h₈.objs.size ∧ a ≠ h₉.objs.size ∧ a ≠ h₁₀.objs.size := fun a ⟨o, ho⟩ => ⟨live_ne ⟨o, ho⟩ bN, live_ne ⟨o, k₉ a o ho⟩ fN, live_ne ⟨o, k₁₀ a o (k₉ a o ho)⟩ rN⟩
  have bf : h₈.objs.size ≠ h₉.objs.size := live_ne bdlive fN
  have br : h₈.objs.size ≠ h₁₀.objs.size := by obtain ⟨o, ho⟩ := bdlive; exact live_ne ⟨o, k₁₀ _ o ho⟩ rN
  have fr : h₉.objs.size ≠ h₁₀.objs.size := live_ne (list_live p₁₀.isList) rN
  have td8 := ne8 x.td (up18 _ tdnb tdlive)
  have pa8 : ∀ a ∈ p'.addrs, a ≠ h₈.objs.size ∧ a ≠ h₉.objs.size ∧ a ≠ h₁₀.objs.size := fun a ha => ne8 a (up18 a (padb a ha) (lv1 a ha))
  have e8 := ne8 e (up18 e eB elive)
  have tdp : x.td ∉ p'.addrs := fun q => by
    rcases ad _ q with u | u
    · exact q2 u
    · exact live_ne (dict_live X.told.dict) (low_size (Keep.refl h) u) rfl
  have etd : e ≠ x.td := fun q => live_ne (dict_live X.told.dict) (low_size (Keep.refl h) el) q.symm
  have kk12 : ∀ b, (∀ q : b = RA, False) → ∀ o, h₁₁.get? b = some o → h₁₂.get? b = some o := fun b nq o e => (s₁₂.2 b nq).trans e
  generalize hy : (⟨h₁₀.objs.size, p', x.td, h₈.objs.size, h₉.objs.size, x.T, x.T, [], [], x.tv, jn x.tv, fun _ => false⟩ : Row) = y
  have Y : RowOk w h₀ h₁₂ y := by
    subst hy
    refine ⟨st₁₂, told₁₂, ⟨DictOf_at d₉ fun o e => kk12 _ (fun q => (nr RA (by simp)).1 q) o (k₁₁ _ o (k₁₀ _ o e)), told₁₂.keys, fun k _ => told_jn told₁₂.val k, G.sys fm₈.base (Nat.le_refl _)⟩,
      ⟨(p₁₀.at fun o e => kk12 _ (fun q => (nr RA (by simp)).2.1 q) o (k₁₁ _ o e)).isList, .nil, by simp, fun k hk => by simp at hk, fun k _ => by simp⟩, p₁₀.at fun o e => kk12 _ (fun q => (nr RA (by simp)).2.1 q) o (k₁₁ _ o e), ?_, ?_, ?_, ?_, ?_⟩
    · show h₁₂.IsList h₁₀.objs.size #[.ref p'.x, .ref x.td, .ref h₈.objs.size, .ref h₉.objs.size]
      rw [px]
      exact l₁₁.at fun o e => kk12 _ (fun q => (nr RA (by simp)).2.2 q) o e
    · intro d' q
      have q' : p'.cv = .ref d' := q
      rw [pc] at q'; injection q' with q'; subst q'
      exact G.sys V.fm.base el
    · show (x.td :: h₉.objs.size :: p'.addrs).Nodup
      obtain ⟨_, _, _, _, _, Xp, _, _⟩ := id st₁
      refine List.nodup_cons.mpr ⟨fun q => ?_, List.nodup_cons.mpr ⟨fun q => (pa8 _ q).2.1 rfl, Xp.nd⟩⟩
      rcases List.mem_cons.mp q with q | q
      · exact td8.2.1 q
      · exact tdp q
    · intro a ha
      rcases List.mem_cons.mp ha with q | ha
      · rw [show a = x.td from q]; exact X.low _ (by simp)
      · rcases List.mem_cons.mp ha with q | ha
        · rw [show a = h₉.objs.size from q]; exact low8 h₉ _ (fm₈.base.trans k₉) fN
        · exact st₁.low a ha
    · intro a ha q
      have ca : a = h₁₀.objs.size ∨ a = h₈.objs.size ∨ a = e := by
        rcases List.mem_cons.mp ha with u | ha
        · exact .inl u
        · rcases List.mem_cons.mp ha with u | ha
          · exact .inr (.inl u)
          · have := mem_cvL.mp ha
            rw [show ({ r := h₁₀.objs.size, p := p', td := x.td, bd := h₈.objs.size, fa := h₉.objs.size, T := x.T, B := x.T, vf := [], ns := [], tv := x.tv, bf := jn x.tv, nf := fun _ => false } : Row).p.cv = .ref e from pc] at this
            injection this with this
            exact .inr (.inr this.symm)
      rcases List.mem_cons.mp q with u | q
      · have u' : a = x.td := u
        rcases ca with v | v | v
        · exact td8.2.2 (u'.symm.trans v)
        · exact td8.1 (u'.symm.trans v)
        · exact etd (v.symm.trans u')
      · rcases List.mem_cons.mp q with u | q
        · have u' : a = h₉.objs.size := u
          rcases ca with v | v | v
          · exact fr (u'.symm.trans v)
          · exact bf (v.symm.trans u')
          · exact e8.2.1 (v.symm.trans u')
        · have q' : a ∈ p'.addrs := q
          rcases ca with v | v | v
          · exact (pa8 a q').2.2 v
          · exact (pa8 a q').1 v
          · exact st₁.cvn e pc (v ▸ q')
  have d2n : NewTo h L RA LA ex rows logs j d₂ := V.newTo (l := (L + 1) :: x.p.addrs) (hk := h₅) (fun b o nq e => by
      simp only [List.mem_cons, not_or] at nq
      exact k₂₅ b o ((s₂.2 b nq.1).trans (c₁ b o (by simpa using nq.2) e))) (fun a ha => by
      rcases List.mem_cons.mp ha with q | ha
      · exact .inl (by simp [q])
      · exact .inr ⟨x, hx, List.mem_cons_of_mem _ (List.mem_cons_of_mem _ ha)⟩) (fun b hb => by
      by_cases n2 : b = L + 1
      · obtain ⟨o, ho, _⟩ := ce₂
        rw [n2]; exact ⟨o, k₂₅ _ o ho⟩
      · obtain ⟨o, ho⟩ := V.blive b hb
        exact ⟨o, k₂₅ b o ((s₂.2 b n2).trans (c₁ b o (nbp b hb) ho))⟩) dn₂
  have d2live : ∃ o, h₆.get? d₂ = some o := by obtain ⟨_, dd, _⟩ := lg₆; exact dict_live dd
  have up15 : ∀ a, a ∉ base L RA LA → (∃ o, h₁.get? a = some o) → ∃ o, h₅.get? a = some o := fun a na ⟨o, ho⟩ => ⟨o, k₂₅ a o ((s₂.2 a (fun q => na (by simp [q]))).trans ho)⟩
  have TnB : h₆.objs.size ∉ [LA, RA] := fun q => by
    have l6 : ∀ b ∈ base L RA LA, b ≠ L + 1 → ∃ o, h₆.get? b = some o := fun b hb n2 => by
      obtain ⟨o, ho⟩ := V.blive b hb
      exact ⟨o, k₆ b o (k₂₅ b o ((s₂.2 b n2).trans (c₁ b o (nbp b hb) ho)))⟩
    simp only [List.mem_cons, List.not_mem_nil, or_false] at q
    rcases q with q | q
    · exact live_ne (l6 LA (by simp) e2) (low_size (Keep.refl _) (Nat.le_refl _)) q.symm
    · exact live_ne (l6 RA (by simp) b2) (low_size (Keep.refl _) (Nat.le_refl _)) q.symm
  have c₇₁₂ : Chg [LA, RA] h₇ h₁₂ := fun b o nq e => by
    simp only [List.mem_cons, List.not_mem_nil, or_false, not_or] at nq
    exact (s₁₂.2 b nq.2).trans (k₈₁₁ b o ((s₈.2 b nq.1).trans e))
  have nt₇ : ∀ a ∈ [LA, RA], ∀ u v, h₇.get? a ≠ some (tup2 u v) := fun a ha => by
    simp only [List.mem_cons, List.not_mem_nil, or_false] at ha
    rcases ha with rfl | rfl
    · exact list_notup (ll₅.at fun o e => k₅₇ _ o e).isList
    · exact list_notup (lr₂.at fun o e => k₂₇ _ o e).isList
  have dy : d ∉ y.own := by
    subst hy
    intro q
    rcases List.mem_cons.mp q with u | q
    · have u' : d = x.td := u
      rcases dq with v | v
      · exact X.sep d (List.mem_cons_of_mem _ (List.mem_cons_of_mem _ (mem_cvL.mpr v))) (by rw [u']; simp)
      · exact live_ne (dict_live X.told.dict) (low_size (Keep.refl h) v) u'.symm
    · rcases List.mem_cons.mp q with u | q
      · have dl : ∃ o, h₁.get? d = some o := by obtain ⟨_, dd, _⟩ := lg₁; exact dict_live dd
        exact (ne8 d (up18 d (fun q => dB d q rfl) dl)).2.1 u
      · exact dn q
  have d2y : d₂ ∉ y.own := by
    subst hy
    intro q
    rcases List.mem_cons.mp q with u | q
    · exact live_ne (up15 _ tdnb tdlive) dn₂ (show d₂ = x.td from u).symm
    · rcases List.mem_cons.mp q with u | q
      · obtain ⟨o, ho⟩ := d2live
        have : ∃ o, h₈.get? d₂ = some o := ⟨o, (s₈.2 _ (fun q => d2n.1 (by simp [q]))).trans (k₇ _ o ho)⟩
        exact (ne8 d₂ this).2.1 u
      · have q' : d₂ ∈ p'.addrs := q
        exact live_ne (up15 d₂ (padb d₂ q') (lv1 d₂ q')) dn₂ rfl
  refine wpAny_execs_nil (wpAny_execs_nil (wpAny_execs_nil (wpAny_execs_nil (kk h₁₂ _ y ⟨h₆.objs.size, d, d₂⟩ ?_ (V.hold c fun a ha => ?_)))))
  · refine V.gen (j := j) (y := y) (l := (L + 1) :: LA :: RA :: x.p.addrs) c ?_ (fm₁₁.turn s₁₂ b1 (V.low _ (by simp))) V.mr V.ml ?_ ?_ ?_ ?_ ?_ (set_get hx) Y ?_ ?_ ?_ (by rw [List.length_set]; exact V.n1) (by rw [List.length_set]; exact V.n3)
    · intro a ha
      rcases List.mem_cons.mp ha with q | ha
      · exact .inl (by simp [q])
      · rcases List.mem_cons.mp ha with q | ha
        · exact .inl (by simp [q])
        · rcases List.mem_cons.mp ha with q | ha
          · exact .inl (by simp [q])
          · exact .inr ⟨x, hx, List.mem_cons_of_mem _ (List.mem_cons_of_mem _ ha)⟩
    · obtain ⟨o, ho, hd⟩ := ce₂
      exact ⟨_, o, kk12 _ (fun q => b2 q.symm) o (k₈₁₁ _ o ((s₈.2 _ (Ne.symm e2)).trans (k₂₇ _ o ho))), hd⟩
    · exact cell_chg cl2₁ c₁₂ (by
        simp only [List.mem_cons, List.not_mem_nil, or_false, not_or]
        exact ⟨Nat.succ_ne_self (L + 1), Ne.symm e3, Ne.symm b3⟩)
    · exact cd₁.chg c₁₂ (by
        simp only [List.mem_cons, List.not_mem_nil, or_false, not_or]
        exact ⟨a2, a5, a4⟩) (fun q => V.l85 G 85 (sub3 _ q) rfl)
    · subst hy
      rw [List.map_set]
      have e : (rows.map fun x => Value.ref x.r).toArray.setIfInBounds j (Value.ref h₁₀.objs.size) = ((rows.map fun x => Value.ref x.r).set j (Value.ref h₁₀.objs.size)).toArray := by simp
      rw [e] at lr₁₂
      exact lr₁₂
    · have e : (logs.map fun e => Value.ref e.T).toArray.push (Value.ref h₆.objs.size) = ((logs ++ [(⟨h₆.objs.size, d, d₂⟩ : LogE)]).map fun e => Value.ref e.T).toArray := by simp
      rw [e] at pl₈
      exact (pl₈.at fun o e => k₈₁₁ _ o e).at fun o e => kk12 _ (fun q => f1 q.symm) o e
    · subst hy
      intro a ha
      rcases List.mem_cons.mp ha with q | ha
      · exact .inl ⟨x, hx, by rw [show a = x.td from q]; simp⟩
      · rcases List.mem_cons.mp ha with q | ha
        · exact .inr (newK h₉ a k₉ (by rw [show a = h₉.objs.size from q]; exact fN))
        · rcases ad a ha with u | u
          · exact .inl ⟨x, hx, List.mem_cons_of_mem _ (List.mem_cons_of_mem _ u)⟩
          · exact .inr (newH a u)
    · subst hy
      intro a ha
      rcases List.mem_cons.mp ha with q | ha
      · exact .inr (newK h₁₀ a (k₉.trans k₁₀) (by rw [show a = h₁₀.objs.size from q]; exact rN))
      · rcases List.mem_cons.mp ha with q | ha
        · exact .inr (newK h₈ a (Keep.refl _) (by rw [show a = h₈.objs.size from q]; exact bN))
        · have := mem_cvL.mp ha
          have this' : p'.cv = .ref a := this
          rw [pc] at this'
          injection this' with this'
          exact .inr (newH a (this' ▸ el))
    · intro e' he'
      rcases List.mem_append.mp he' with q | q
      · exact .inl q
      · rw [List.mem_singleton] at q
        subst q
        refine .inr ⟨⟨c₇₁₂ _ _ TnB hTup, ⟨Lg, _, x.tv, x.bf, lg₁.chg c₁₂ (fun q => dB d (sub3 _ q) rfl) nt₁, (lg₆.keep k₇).chg c₇₁₂ (fun q => d2n.1 ?_) nt₇, il, llog_is x.tv x.bf⟩, sd, sd₂⟩, fun a ha => ?_⟩
        · simp only [List.mem_cons, List.not_mem_nil, or_false] at q
          rcases q with q | q
          · have q' : d₂ = LA := q
            rw [q']; simp
          · have q' : d₂ = RA := q
            rw [q']; simp
        · simp only [List.mem_cons, List.not_mem_nil, or_false] at ha
          rcases ha with q | q
          · have q' : a = d := q
            subst q'
            refine ⟨?_, dy⟩
            rcases dq with u | u
            · exact .inl ⟨x, hx, List.mem_cons_of_mem _ (List.mem_cons_of_mem _ (mem_cvL.mpr u))⟩
            · exact .inr (newH _ u)
          · have q' : a = d₂ := q
            subst q'
            exact ⟨.inr d2n, d2y⟩
  · rcases List.mem_cons.mp ha with q | ha
    · exact .inl (by simp [q])
    · rcases List.mem_cons.mp ha with q | ha
      · exact .inl (by simp [q])
      · rcases List.mem_cons.mp ha with q | ha
        · exact .inl (by simp [q])
        · exact .inr ⟨x, hm, List.mem_cons_of_mem _ (List.mem_cons_of_mem _ ha)⟩
end
end
end Mine
namespace Mine
noncomputable section
noncomputable def dig : List Stmt → List Stmt
  | .If _ _ o _ :: _ => o
  | _ => []
/-- the statements of a fork -/
noncomputable abbrev forkS (w : World) : List Stmt := dig (dig (dig (dig ((turnB w).drop 7))))
theorem f_copy (w : World) : findIn (KK w) (.ref 170) "copy" = some (some (.ref 129)) := by kernel_rfl
section
variable {w : World} {A : Around} {E : Value → Shared → Prop} {h₀ h : Heap} {L RA LA : Addr} {m : Str → Option Value} {g : Array GenState} {dr : Drawn} {t : Nat} {os : OsState} {ex : List Addr} {rows : List Row} {logs : List LogE} {Q : Flow → Shared → Prop} {R : Flow → Shared → Prop} {n : Int} {tn : Tok} {x y : Row} {j : Nat} {k wi : Int} {t1 t2 t3 t4 : Tok}
theorem mkRow (st : St w h₀ h y.p y.tv y.bf y.nf) (cv : y.p.cv = .none) (told : Told w h y.td y.T y.tv) (befo : Befo w h y.bd y.B y.bf) (fresh : Fresh h y.fa y.vf y.ns y.nf) (pl : h.PlainList y.fa y.vf.toArray) (list : h.IsList y.r #[.ref y.p.x, .ref y.td, .ref y.bd, .ref y.fa])
    (tp : y.td ∉ y.p.addrs) (fp : y.fa ∉ y.p.addrs) (bp : y.bd ∉ y.p.addrs) (bt : y.bd ≠ y.td) (rp : y.r ∉ y.p.addrs) (rf : y.r ≠ y.fa) (lt : h₀.get? y.td = none) (lf : h₀.get? y.fa = none) : RowOk w h₀ h y := by
  have dl : ∀ {a b : Addr} {kvs : List (Int × Value)} {xs : Array Value}, h.DictOf (IK w) a kvs → h.IsList b xs → a ≠ b := fun {a b kvs xs} hd hl => by
    obtain ⟨o, _, _, ho, hc, _⟩ := hd
    obtain ⟨o', ho', hc', _⟩ := hl
    exact ne_cls ho ho' hc.1 hc' (by decide)
  refine ⟨st, told, befo, fresh, pl, list, fun d q => ?_, ?_, ?_, ?_⟩
  · rw [cv] at q; cases q
  · obtain ⟨_, _, _, _, _, X, _, _⟩ := id st
    refine List.nodup_cons.mpr ⟨fun q => ?_, List.nodup_cons.mpr ⟨fp, X.nd⟩⟩
    rcases List.mem_cons.mp q with q | q
    · exact dl told.dict fresh.list q
    · exact tp q
  · intro a ha
    rcases List.mem_cons.mp ha with q | ha
    · rw [q]; exact lt
    · rcases List.mem_cons.mp ha with q | ha
      · rw [q]; exact lf
      · exact st.low a ha
  · intro a ha q
    have ca : a = y.r ∨ a = y.bd := by
      rcases List.mem_cons.mp ha with u | ha
      · exact .inl u
      · rcases List.mem_cons.mp ha with u | ha
        · exact .inr u
        · have := mem_cvL.mp ha
          rw [cv] at this; cases this
    rcases List.mem_cons.mp q with u | q
    · rcases ca with v | v
      · exact dl told.dict list (u.symm.trans v)
      · exact bt (v.symm.trans u)
    · rcases List.mem_cons.mp q with u | q
      · rcases ca with v | v
        · exact rf (v.symm.trans u)
        · exact dl befo.dict fresh.list (v.symm.trans u)
      · rcases ca with v | v
        · exact rp (v ▸ q)
        · exact bp (v ▸ q)
theorem LawI.len (V : LawI w h₀ h L RA LA ex rows logs m) : (rows.map fun x => Value.ref x.r).toArray.size = rows.length := by rw [List.size_toArray, List.length_map]
/-- the fork is laid among the rows -/
theorem fork_tail (G : Good0 w h₀) (V : LawI w h₀ h L RA LA ex rows logs m) (Y : RowOk w h₀ h y) (yo : ∀ i, ∀ a ∈ y.own, NewTo h L RA LA ex rows logs i a) (yr : ∀ i, ∀ a ∈ y.ro, NewTo h L RA LA ex rows logs i a)
    (mf : m "fork" = some (.ref y.r)) (mp : m "place" = some (.int j t4)) (jl : j < rows.length)
    (kk : ∀ h' t' rows', LawI w h₀ h' L RA LA ex rows' logs m → j < rows'.length → Hold ex h h' → Q .next ⟨h', g, dr, t', os⟩) :
    wpAny (MM w) A (execs ((forkS w).drop 1) (envL w L)) Q E ⟨h, g, dr, t, os⟩ := by
  obtain ⟨⟨a1, a2, a3, a4, a5⟩, ⟨b1, b2, b3⟩, ⟨e1, e2, e3⟩, f1⟩ := V.bne
  have n1 := V.n1
  have n3 := V.n3
  have hz := V.len
  have fin : ∀ (h' : Heap) (t' : Nat) (rows' : List Row) (i : Nat), Heap.SameBut RA h h' → h'.PlainList RA (rows'.map fun x => Value.ref x.r).toArray → (∀ i' z, rows'[i']? = some z → (i' = i ∧ z = y) ∨ (i' ≠ i ∧ rows[i']? = some z)) → rows.length ≤ rows'.length → rows'.length ≤ 3 → Q .next ⟨h', g, dr, t', os⟩ := by
    intro h' t' rows' i s' lr' hr l1 l2
    have c : Chg [RA] h h' := Chg.of_same s' (by simp)
    have hl : ∀ a ∈ [RA], a ∈ base L RA LA := fun a ha => by rw [List.mem_singleton] at ha; simp [ha]
    have Y' := Y.chg c (fun a ha => V.bnotup a (hl a ha)) (fun a ha q => (yo 0 a ha).1 (hl a q)) fun a ha q => (yr 0 a ha).1 (hl a q)
    refine kk h' t' rows' (V.gen (j := i) (y := y) (l := [RA]) c (fun a ha => .inl (hl a ha)) (V.fm.turn s' b1 (V.low _ (by simp))) V.mr V.ml (cell_chg V.c1 c (by simpa using Ne.symm b2)) (cell_chg V.c2 c (by simpa using Ne.symm b3)) (V.cd.chg c (by simpa using a4) (fun q => V.l85 G 85 (hl _ q) rfl)) lr' (list_chg V.ll c (by simpa using Ne.symm f1)) hr Y' (fun a ha => .inr (yo i a ha)) (fun a ha => .inr (yr i a ha)) (fun e he => .inl he) (by omega) l2) (by omega) (V.hold c fun a ha => .inl (hl a ha))
  refine wpAny_execs_cons (wpAny_If (wpAny_isTrue_Compare1 (n_bf1 G V.fm boot_len (b_len w) (n_loc V.fm (v := .ref RA) (call_len_list V.lr.isList (by rw [hz]; omega) (wpAny_Constant_int (PyProof.Rows.lt_int (wpAny_truthy_bool ?_)))) V.mr))))
  rw [hz]
  by_cases h3 : (rows.length : Int) < 3
  · rw [decide_eq_true h3, if_pos rfl]
    obtain ⟨nn, hoRA⟩ := id V.lr
    refine wpAny_execs_cons (wpAny_Expr_any (n_bm1 F.plainAttrs_list slot_list_append type_list_append (n_loc V.fm (v := .ref RA) ⟨_, rfl, ⟨_, hoRA, rfl, rfl⟩, n_loc V.fm (v := .ref y.r) (wpAny_list_append_plain V.lr (fun h' pl' s' => ?_) (by rw [sizeLine_eq, hz]; omega)) mf⟩ V.mr)))
    refine wpAny_execs_nil (wpAny_execs_nil (fin h' _ (rows ++ [y]) rows.length s' (by
      have e : (rows.map fun x => Value.ref x.r).toArray.push (Value.ref y.r) = ((rows ++ [y]).map fun x => Value.ref x.r).toArray := by simp
      rw [← e]; exact pl') (fun i' z e => ?_) (by simp) (by simp; omega)))
    rcases Nat.lt_trichotomy i' rows.length with q | q | q
    · rw [List.getElem?_append_left q] at e
      exact .inr ⟨Nat.ne_of_lt q, e⟩
    · rw [q, List.getElem?_append_right (Nat.le_refl _), Nat.sub_self] at e
      exact .inl ⟨q, (Option.some.inj e).symm⟩
    · rw [List.getElem?_eq_none (by rw [List.length_append, List.length_singleton]; omega)] at e; cases e
  · rw [decide_eq_false h3, if_neg (by decide)]
    refine wpAny_execs_cons (wpAny_Assign_Subscript (n_loc V.fm (v := .ref y.r) (n_loc V.fm (v := .ref RA) (wpAny_BinOp (wpAny_BinOp (n_loc V.fm (v := .int j t4) (wpAny_Constant_int (PyProof.Rows.add_int (wpAny_Constant_int (PyProof.Rows.mod_int' (by decide) ?_)))) mp))) V.mr) mf))
    have p0 : 0 ≤ ((j : Int) + 1).fmod 3 := Int.fmod_nonneg_of_pos _ (by decide)
    have p1 : ((j : Int) + 1).fmod 3 < 3 := Int.fmod_lt_of_pos _ (by decide)
    obtain ⟨i, hi⟩ := Int.eq_ofNat_of_zero_le p0
    rw [hi] at p1 ⊢
    have il : i < rows.length := by omega
    have hx : rows[i]? = some rows[i] := List.getElem?_eq_getElem il
    refine n_lset V.lr (by rw [hz]; exact il) (by rw [hz]; omega) fun h' lr' s' => ?_
    refine wpAny_execs_nil (wpAny_execs_nil (fin h' _ (rows.set i y) i s' (by
      have e : (rows.map fun x => Value.ref x.r).toArray.setIfInBounds i (Value.ref y.r) = ((rows.set i y).map fun x => Value.ref x.r).toArray := by simp [List.map_set]
      rw [← e]; exact lr') (set_get hx) (by simp) (by simp; omega)))
end
end
end Mine
namespace Mine
noncomputable section
section
variable {w : World} {A : Around} {E : Value → Shared → Prop} {h₀ h : Heap} {L RA LA : Addr} {m : Str → Option Value} {g : Array GenState} {dr : Drawn} {t : Nat} {os : OsState} {ex : List Addr} {rows : List Row} {logs : List LogE} {R : Flow → Shared → Prop} {n : Int} {tn : Tok} {x y : Row} {j : Nat} {k wi : Int} {t1 t2 t3 t4 : Tok}
theorem Befo.lt3 {a : Addr} {B : List (Int × Value)} {bf : Int → Option Bool} (b : Befo w h a B bf) : B.length ≤ 3 := len_of_keys (ks := K3) (dict_nd b.dict) b.keys
theorem Fresh.lt3 {a : Addr} {vf : List Value} {ns : List Int} {nf : Int → Bool} (f : Fresh h a vf ns nf) : vf.length ≤ 3 := by
  have e1 := f.isI.sizeZ
  simp only [List.size_toArray] at e1
  have := len_of_keys (l := ns.map fun k => (k, ())) (ks := K3) (by rw [List.map_map]; simpa [Function.comp_def] using f.nd) (fun y hy => by obtain ⟨k, hk', rfl⟩ := List.mem_map.mp hy; exact f.keys k hk')
  rw [List.length_map] at this
  have : K3.length = 3 := rfl
  omega
/-- the way to the fork -/
theorem to_fork (V : LawI w h₀ h L RA LA ex rows logs m) (P : Pro m n tn j x k wi t1 t2 t3 t4) (hlt : 4 < n.fmod 7)
    (kk : ∀ t', wpAny (MM w) A (execs (forkS w) (envL w L)) (fun fl s' => match fl with | .next => wpAny (MM w) A (execs ((turnB w).drop 8) (envL w L)) R E s' | f => R f s') E ⟨h, g, dr, t', os⟩) :
    wpAny (MM w) A (execs ((turnB w).drop 6) (envL w L)) R E ⟨h, g, dr, t, os⟩ := by
  refine fresh_no V P (by omega) fun u₁ => ?_
  refine wpAny_execs_cons (wpAny_If (wpAny_isTrue_Compare1 (n_loc V.fm (v := .int (n.fmod 7) t1) (wpAny_Constant_int (PyProof.Rows.lt_int (wpAny_truthy_bool ?_))) P.kind)))
  rw [decide_eq_false (by omega), if_neg (by decide)]
  refine wpAny_execs_cons (wpAny_If (wpAny_isTrue_Compare1 (n_loc V.fm (v := .int (n.fmod 7) t1) (wpAny_Constant_int (PyProof.Rows.eq_int (wpAny_truthy_bool ?_))) P.kind)))
  rw [show (n.fmod 7 == 2) = false by rw [beq_eq_false_iff_ne]; omega, if_neg (by decide)]
  refine wpAny_execs_cons (wpAny_If (wpAny_isTrue_Compare1 (n_loc V.fm (v := .int (n.fmod 7) t1) (wpAny_Constant_int (PyProof.Rows.eq_int (wpAny_truthy_bool ?_))) P.kind)))
  rw [show (n.fmod 7 == 3) = false by rw [beq_eq_false_iff_ne]; omega, if_neg (by decide)]
  refine wpAny_execs_cons (wpAny_If (wpAny_isTrue_Compare1 (n_loc V.fm (v := .int (n.fmod 7) t1) (wpAny_Constant_int (PyProof.Rows.eq_int (wpAny_truthy_bool ?_))) P.kind)))
  rw [show (n.fmod 7 == 4) = false by rw [beq_eq_false_iff_ne]; omega, if_neg (by decide)]
  refine wpAny_mono (kk _) (fun fl s' q => ?_) fun _ _ z => z
  cases fl with
  | next => exact wpAny_execs_nil (wpAny_execs_nil (wpAny_execs_nil q))
  | _ => exact q
/-- fork: a copy -/
theorem act5 (G : Good0 w h₀) (hh : A.handled = none) (hroom : A.depth + 8 < recursionLimit) (V : LawI w h₀ h L RA LA ex rows logs m) (hx : rows[j]? = some x) (P : Pro m n tn j x k wi t1 t2 t3 t4) (hlt : n.fmod 7 = 5)
    (kk : ∀ h' t' m' rows', LawI w h₀ h' L RA LA ex rows' logs m' → m' "number" = some (.int n tn) → m' "place" = some (.int j t4) → j < rows'.length → Hold ex h h' → wpAny (MM w) A (execs ((turnB w).drop 8) (envL w L)) R E ⟨h', g, dr, t', os⟩) :
    wpAny (MM w) A (execs ((turnB w).drop 6) (envL w L)) R E ⟨h, g, dr, t, os⟩ := by
  have hm := List.mem_of_getElem? hx
  have X := V.row x hm
  have jl : j < rows.length := by
    rcases Nat.lt_or_ge j rows.length with q | q
    · exact q
    · rw [List.getElem?_eq_none q] at hx; cases hx
  refine to_fork V P (by omega) fun u₁ => ?_
  refine wpAny_execs_cons (wpAny_If (wpAny_isTrue_Compare1 (n_loc V.fm (v := .int (n.fmod 7) t1) (wpAny_Constant_int (PyProof.Rows.eq_int (wpAny_truthy_bool ?_))) P.kind)))
  rw [hlt, if_pos (by decide)]
  obtain ⟨D, Ol, S, Gs, N, X1, r1, _⟩ := id X.st
  have l1 := X.told.lt3
  have l2 := X.befo.lt3
  have l3 := X.fresh.lt3
  refine wpAny_execs_cons (wpAny_Assign_Name (wpAny_List (args_cons (n_um0 G V.fm X1 (f_copy w) (fn129 w) (copy_ok G V.fm.base hh (by omega) X.st fun h₁ v₁ p' st₁ pc pa k₁ => ?_) rfl (by kernel_rfl) P.held) rfl)))
  have fm₁ := (V.fm.keep k₁).here
  have told₁ := X.told.at fun o e => k₁ _ o e
  refine args_cons (n_bm0 F.plainAttrs_dict F.slot_dict_copy F.type_dict_copy (n_loc fm₁ (v := .ref x.td) ⟨_, rfl, DictOf_ob told₁.dict, n_dcopy told₁.dict told₁.sys (by omega) fun h₂ d₂ k₂ => ?_⟩ P.told)) rfl
  have k02 : Keep h h₂ := k₁.trans k₂
  have fm₂ := (fm₁.keep k₂).here
  have befo₂ := X.befo.at fun o e => k02 _ o e
  refine args_cons (n_bm0 F.plainAttrs_dict F.slot_dict_copy F.type_dict_copy (n_loc fm₂ (v := .ref x.bd) ⟨_, rfl, DictOf_ob befo₂.dict, n_dcopy befo₂.dict befo₂.sys (by omega) fun h₃ d₃ k₃ => ?_⟩ P.before)) rfl
  have k03 : Keep h h₃ := k02.trans k₃
  have fm₃ := (fm₂.keep k₃).here
  have fr₃ := X.fresh.at fun o e => k03 _ o e
  refine args_cons (Subscript_ (n_loc fm₃ (v := .ref x.fa) (wpAny_Slice (wpAny_of_eq (rfl : evalPart none _ = pure .none) (wpAny_of_eq (rfl : evalPart none _ = pure .none) (wpAny_of_eq (rfl : evalPart none _ = pure .none) ?_)))) P.fresh)) rfl
  refine n_slice (h := h₃) fr₃.list .none .none (by rw [List.size_toArray]; omega) fun h₄ k₄ z₄ p₄ => args_nil ⟨by rw [sizeLine_eq]; show 4 ≤ _; decide, ?_⟩
  rw [slicePick_all] at p₄
  dsimp only
  have k₅ : Keep h₄ (h₄.push { cls := .type "list", data := .seq #[.ref p'.x, .ref h₁.objs.size, .ref h₂.objs.size, .ref (h₃.objs.size + 1)] }) := fun b o e => Heap.get?_push_of_some _ e
  have l₅ : (h₄.push { cls := .type "list", data := .seq #[.ref p'.x, .ref h₁.objs.size, .ref h₂.objs.size, .ref (h₃.objs.size + 1)] }).IsList h₄.objs.size #[.ref p'.x, .ref h₁.objs.size, .ref h₂.objs.size, .ref (h₃.objs.size + 1)] := ⟨_, Heap.get?_push_size _ rfl, rfl, _, rfl⟩
  show wpAny _ _ _ _ _ ⟨h₄.push { cls := .type "list", data := .seq #[.ref p'.x, .ref h₁.objs.size, .ref h₂.objs.size, .ref (h₃.objs.size + 1)] }, g, dr, _, os⟩
  generalize h₄.push { cls := .type "list", data := .seq #[.ref p'.x, .ref h₁.objs.size, .ref h₂.objs.size, .ref (h₃.objs.size + 1)] } = h₅ at k₅ l₅ ⊢
  have k05 : Keep h h₅ := k03.trans (k₄.trans k₅)
  have V₅ := V.keep k05
  refine m_store V₅.fm rfl rfl fun h₆ v₆ fm₆ => ?_
  have V₆ := V₅.put G fm₆ (by exact V.mr) (by exact V.ml)
  refine wpAny_execs_nil ?_
  generalize hy : (⟨h₄.objs.size, p', h₁.objs.size, h₂.objs.size, h₃.objs.size + 1, x.T, x.B, x.vf, x.ns, x.tv, x.bf, x.nf⟩ : Row) = y
  -- what is new
  have tN : h₁.get? h₁.objs.size = none := low_size (Keep.refl _) (Nat.le_refl _)
  have bN : h₂.get? h₂.objs.size = none := low_size (Keep.refl _) (Nat.le_refl _)
  have fN : h₃.get? (h₃.objs.size + 1) = none := low_size (Keep.refl _) (Nat.le_succ _)
  have rN : h₄.get? h₄.objs.size = none := low_size (Keep.refl _) (Nat.le_refl _)
  have up : ∀ {ha hb : Heap} {a : Addr}, Keep ha hb → (∃ o, ha.get? a = some o) → ∃ o, hb.get? a = some o := fun kq ⟨o, ho⟩ => ⟨o, kq _ o ho⟩
  have pl1 := st₁.live
  have tl2 := dict_live d₂
  have bl3 := dict_live d₃
  have fl4 := list_live p₄.isList
  have Y₅ : RowOk w h₀ h₅ y := by
    subst hy
    refine mkRow (st₁.keep (k₂.trans (k₃.trans (k₄.trans k₅)))) pc ⟨DictOf_at d₂ fun o e => k₅ _ o (k₄ _ o (k₃ _ o e)), X.told.keys, X.told.val, G.sys fm₁.base (Nat.le_refl _)⟩ ⟨DictOf_at d₃ fun o e => k₅ _ o (k₄ _ o e), X.befo.keys, X.befo.val, G.sys fm₂.base (Nat.le_refl _)⟩
      ⟨(p₄.at fun o e => k₅ _ o e).isList, X.fresh.isI, X.fresh.nd, X.fresh.keys, X.fresh.val⟩ (p₄.at fun o e => k₅ _ o e) l₅ (fun q => live_ne (pl1 _ q) tN rfl) (fun q => live_ne (up (k₂.trans k₃) (pl1 _ q)) fN rfl) (fun q => live_ne (up k₂ (pl1 _ q)) bN rfl) (fun q => live_ne tl2 bN q.symm) (fun q => live_ne (up (k₂.trans (k₃.trans k₄)) (pl1 _ q)) rN rfl) (fun q => live_ne fl4 rN q.symm) (low_size fm₁.base (Nat.le_refl _)) (low_size fm₃.base (Nat.le_succ _))
  have nw : ∀ hk i a, Keep h hk → hk.get? a = none → NewTo h L RA LA ex rows logs i a := fun hk i a kq ha => V.newTo (l := []) (hk := hk) (Chg.of_keep kq) (fun a ha => nomatch ha) (fun b hb => let ⟨o, ho⟩ := V.blive b hb; ⟨o, kq b o ho⟩) ha
  have nown : ∀ i, ∀ a ∈ y.own, NewTo h L RA LA ex rows logs i a := fun i a ha => by
    subst hy
    rcases List.mem_cons.mp ha with q | ha
    · exact nw h₁ i a k₁ (by rw [show a = h₁.objs.size from q]; exact tN)
    · rcases List.mem_cons.mp ha with q | ha
      · exact nw h₃ i a k03 (by rw [show a = h₃.objs.size + 1 from q]; exact fN)
      · exact nw h i a (Keep.refl _) (low_size (Keep.refl h) (pa a ha))
  have nro : ∀ i, ∀ a ∈ y.ro, NewTo h L RA LA ex rows logs i a := fun i a ha => by
    subst hy
    rcases List.mem_cons.mp ha with q | ha
    · exact nw h₄ i a (k03.trans k₄) (by rw [show a = h₄.objs.size from q]; exact rN)
    · rcases List.mem_cons.mp ha with q | ha
      · exact nw h₂ i a k02 (by rw [show a = h₂.objs.size from q]; exact bN)
      · have := mem_cvL.mp ha
        rw [show ({ r := h₄.objs.size, p := p', td := h₁.objs.size, bd := h₂.objs.size, fa := h₃.objs.size + 1, T := x.T, B := x.B, vf := x.vf, ns := x.ns, tv := x.tv, bf := x.bf, nf := x.nf } : Row).p.cv = .none from pc] at this
        cases this
  have Y₆ : RowOk w h₀ h₆ y := Y₅.chg (l := [L]) (fun b o nq e => fm₆.ext b o (by simpa using nq) e) (fun a ha => by rw [List.mem_singleton] at ha; subst ha; exact ns_notup V₅.fm.ns) (fun a ha q => (nown 0 a ha).1 (by rw [List.mem_singleton] at q; simp [q])) fun a ha q => (nro 0 a ha).1 (by rw [List.mem_singleton] at q; simp [q])
  refine fork_tail (y := y) (j := j) (t4 := t4) G V₆ Y₆ nown nro (by subst hy; rfl) (by exact P.place) jl fun h₇ v₇ rows' V₇ jl' H₇ => ?_
  exact kk h₇ _ _ rows' V₇ (by exact P.num) (by exact P.place) jl' (((V.keepH k05).trans (V₅.putH fm₆)).trans H₇)
end
end
end Mine
namespace Mine
noncomputable section
section
variable {w : World} {A : Around} {E : Value → Shared → Prop} {h₀ h : Heap} {L RA LA : Addr} {m : Str → Option Value} {g : Array GenState} {dr : Drawn} {t : Nat} {os : OsState} {ex : List Addr} {rows : List Row} {logs : List LogE} {R : Flow → Shared → Prop} {n : Int} {tn : Tok} {x y : Row} {j : Nat} {k wi : Int} {t1 t2 t3 t4 : Tok}
/-- fork: a new set out of a dict -/
theorem act6 (G : Good0 w h₀) (hh : A.handled = none) (hroom : A.depth + 8 < recursionLimit) (V : LawI w h₀ h L RA LA ex rows logs m) (hx : rows[j]? = some x) (P : Pro m n tn j x k wi t1 t2 t3 t4) (hlt : n.fmod 7 = 6)
    (kk : ∀ h' t' m' rows', LawI w h₀ h' L RA LA ex rows' logs m' → m' "number" = some (.int n tn) → m' "place" = some (.int j t4) → j < rows'.length → Hold ex h h' → wpAny (MM w) A (execs ((turnB w).drop 8) (envL w L)) R E ⟨h', g, dr, t', os⟩) :
    wpAny (MM w) A (execs ((turnB w).drop 6) (envL w L)) R E ⟨h, g, dr, t, os⟩ := by
  have hm := List.mem_of_getElem? hx
  have X := V.row x hm
  have jl : j < rows.length := by
    rcases Nat.lt_or_ge j rows.length with q | q
    · exact q
    · rw [List.getElem?_eq_none q] at hx; cases hx
  refine to_fork V P (by omega) fun u₁ => ?_
  refine wpAny_execs_cons (wpAny_If (wpAny_isTrue_Compare1 (n_loc V.fm (v := .int (n.fmod 7) t1) (wpAny_Constant_int (PyProof.Rows.eq_int (wpAny_truthy_bool ?_))) P.kind)))
  rw [hlt, if_neg (by decide)]
  have l1 := X.told.lt3
  have hk3 : ∀ y ∈ mixL x.tv x.T, ab y.1 ∈ K3 := fun y hy => by
    obtain ⟨z, hz, rfl⟩ := List.mem_map.mp hy
    rw [ab_mix (X.told.keys z hz)]; exact X.told.keys z hz
  refine wpAny_execs_cons (wpAny_Assign_Name (wpAny_List (args_cons (n_call1 G V.fm (g_class w) (by kernel_rfl) (n_call1 G V.fm (g_mixed w) (by kernel_rfl) (n_loc V.fm (v := .ref x.td) ⟨V.fm.base, mixed_ok G V.fm.base (by omega) hh X.told fun h₀' v₀ d dz ds dd k₀ => ⟨V.fm.base.trans k₀, init1_ok (es := mixL x.tv x.T) G (V.fm.base.trans k₀) hh (by omega) hk3 (mix_nd X.told.keys (dict_nd X.told.dict)) dd ds fun h₁ v₁ p' st₁ pc pa kx => ?_⟩⟩ P.told))) rfl)))
  rw [mix_tvE X.told.keys X.told.val] at st₁
  have k₁ : Keep h h₁ := k₀.trans kx
  have fm₁ := (V.fm.keep k₁).here
  have told₁ := X.told.at fun o e => k₁ _ o e
  refine args_cons (n_bm0 F.plainAttrs_dict F.slot_dict_copy F.type_dict_copy (n_loc fm₁ (v := .ref x.td) ⟨_, rfl, DictOf_ob told₁.dict, n_dcopy told₁.dict told₁.sys (by omega) fun h₂ d₂ k₂ => ?_⟩ P.told)) rfl
  have k02 : Keep h h₂ := k₁.trans k₂
  have fm₂ := (fm₁.keep k₂).here
  refine args_cons (wpAny_Dict_empty ?_) rfl
  have d₃ := Heap.DictOf.new (knd := IK w) h₂
  have k₃ : Keep h₂ (h₂.push { cls := .type "dict", data := .dict #[] }) := fun b o e => Heap.get?_push_of_some _ e
  show wpAny _ _ _ _ _ ⟨h₂.push { cls := .type "dict", data := .dict #[] }, g, dr, _, os⟩
  generalize h₂.push { cls := .type "dict", data := .dict #[] } = h₃ at d₃ k₃ ⊢
  have k03 : Keep h h₃ := k02.trans k₃
  have fm₃ := (fm₂.keep k₃).here
  have told₃ := X.told.at fun o e => k03 _ o e
  refine args_cons (n_bf1 G fm₃ boot_sorted (b_sorted w) (n_loc fm₃ (v := .ref x.td) (sorted_dictP hh told₃.dict told₃.sys told₃.keys fun h₄ v₄ fa vs fN p₄ iv k₄ => args_nil ⟨by rw [sizeLine_eq]; show 4 ≤ _; decide, ?_⟩) P.told)) rfl
  rw [told₃.kn] at iv
  dsimp only
  have k₅ : Keep h₄ (h₄.push { cls := .type "list", data := .seq #[.ref p'.x, .ref h₁.objs.size, .ref h₂.objs.size, .ref fa] }) := fun b o e => Heap.get?_push_of_some _ e
  have l₅ : (h₄.push { cls := .type "list", data := .seq #[.ref p'.x, .ref h₁.objs.size, .ref h₂.objs.size, .ref fa] }).IsList h₄.objs.size #[.ref p'.x, .ref h₁.objs.size, .ref h₂.objs.size, .ref fa] := ⟨_, Heap.get?_push_size _ rfl, rfl, _, rfl⟩
  show wpAny _ _ _ _ _ ⟨h₄.push { cls := .type "list", data := .seq #[.ref p'.x, .ref h₁.objs.size, .ref h₂.objs.size, .ref fa] }, g, dr, _, os⟩
  generalize h₄.push { cls := .type "list", data := .seq #[.ref p'.x, .ref h₁.objs.size, .ref h₂.objs.size, .ref fa] } = h₅ at k₅ l₅ ⊢
  have k05 : Keep h h₅ := k03.trans (k₄.trans k₅)
  have V₅ := V.keep k05
  refine m_store V₅.fm rfl rfl fun h₆ v₆ fm₆ => ?_
  have V₆ := V₅.put G fm₆ (by exact V.mr) (by exact V.ml)
  refine wpAny_execs_nil ?_
  generalize hy : (⟨h₄.objs.size, p', h₁.objs.size, h₂.objs.size, fa, x.T, [], vs, kn x.tv, x.tv, fun _ => none, fun k => (x.tv k).isSome⟩ : Row) = y
  -- what is new
  have tN : h₁.get? h₁.objs.size = none := low_size (Keep.refl _) (Nat.le_refl _)
  have bN : h₂.get? h₂.objs.size = none := low_size (Keep.refl _) (Nat.le_refl _)
  have rN : h₄.get? h₄.objs.size = none := low_size (Keep.refl _) (Nat.le_refl _)
  have up : ∀ {ha hb : Heap} {a : Addr}, Keep ha hb → (∃ o, ha.get? a = some o) → ∃ o, hb.get? a = some o := fun kq ⟨o, ho⟩ => ⟨o, kq _ o ho⟩
  have pl1 := st₁.live
  have tl2 := dict_live d₂
  have bl3 := dict_live d₃
  have fl4 := list_live p₄.isList
  have lowf : h₀.get? fa = none := by
    cases q : h₀.get? fa with
    | none => rfl
    | some o => rw [fm₃.base _ o q] at fN; cases fN
  have Y₅ : RowOk w h₀ h₅ y := by
    subst hy
    refine mkRow (st₁.keep (k₂.trans (k₃.trans (k₄.trans k₅)))) pc ⟨DictOf_at d₂ fun o e => k₅ _ o (k₄ _ o (k₃ _ o e)), X.told.keys, X.told.val, G.sys fm₁.base (Nat.le_refl _)⟩ ⟨DictOf_at d₃ fun o e => k₅ _ o (k₄ _ o e), fun x hx => (by simp at hx), fun k _ => rfl, G.sys fm₂.base (Nat.le_refl _)⟩
      ⟨(p₄.at fun o e => k₅ _ o e).isList, iv, kn_perm _, fun k hk => (List.mem_filter.mp hk).1, fun k hk => ?_⟩ (p₄.at fun o e => k₅ _ o e) l₅ (fun q => live_ne (pl1 _ q) tN rfl) (fun q => live_ne (up (k₂.trans k₃) (pl1 _ q)) fN rfl) (fun q => live_ne (up k₂ (pl1 _ q)) bN rfl) (fun q => live_ne tl2 bN q.symm) (fun q => live_ne (up (k₂.trans (k₃.trans k₄)) (pl1 _ q)) rN rfl) (fun q => live_ne fl4 rN q.symm) (low_size fm₁.base (Nat.le_refl _)) lowf
    show (x.tv k).isSome = (kn x.tv).contains k
    rw [Bool.eq_iff_iff, List.contains_iff_mem, List.mem_filter]
    exact ⟨fun q => ⟨hk, q⟩, fun q => q.2⟩
  have nw : ∀ hk i a, Keep h hk → hk.get? a = none → NewTo h L RA LA ex rows logs i a := fun hk i a kq ha => V.newTo (l := []) (hk := hk) (Chg.of_keep kq) (fun a ha => nomatch ha) (fun b hb => let ⟨o, ho⟩ := V.blive b hb; ⟨o, kq b o ho⟩) ha
  have nown : ∀ i, ∀ a ∈ y.own, NewTo h L RA LA ex rows logs i a := fun i a ha => by
    subst hy
    rcases List.mem_cons.mp ha with q | ha
    · exact nw h₁ i a k₁ (by rw [show a = h₁.objs.size from q]; exact tN)
    · rcases List.mem_cons.mp ha with q | ha
      · exact nw h₃ i a k03 (by rw [show a = fa from q]; exact fN)
      · exact nw h₀' i a k₀ (low_size (Keep.refl h₀') (pa a ha))
  have nro : ∀ i, ∀ a ∈ y.ro, NewTo h L RA LA ex rows logs i a := fun i a ha => by
    subst hy
    rcases List.mem_cons.mp ha with q | ha
    · exact nw h₄ i a (k03.trans k₄) (by rw [show a = h₄.objs.size from q]; exact rN)
    · rcases List.mem_cons.mp ha with q | ha
      · exact nw h₂ i a k02 (by rw [show a = h₂.objs.size from q]; exact bN)
      · have := mem_cvL.mp ha
        rw [show ({ r := h₄.objs.size, p := p', td := h₁.objs.size, bd := h₂.objs.size, fa := fa, T := x.T, B := [], vf := vs, ns := kn x.tv, tv := x.tv, bf := fun _ => none, nf := fun k => (x.tv k).isSome } : Row).p.cv = .none from pc] at this
        cases this
  have Y₆ : RowOk w h₀ h₆ y := Y₅.chg (l := [L]) (fun b o nq e => fm₆.ext b o (by simpa using nq) e) (fun a ha => by rw [List.mem_singleton] at ha; subst ha; exact ns_notup V₅.fm.ns) (fun a ha q => (nown 0 a ha).1 (by rw [List.mem_singleton] at q; simp [q])) fun a ha q => (nro 0 a ha).1 (by rw [List.mem_singleton] at q; simp [q])
  refine fork_tail (y := y) (j := j) (t4 := t4) G V₆ Y₆ nown nro (by subst hy; rfl) (by exact P.place) jl fun h₇ v₇ rows' V₇ jl' H₇ => ?_
  exact kk h₇ _ _ rows' V₇ (by exact P.num) (by exact P.place) jl' (((V.keepH k05).trans (V₅.putH fm₆)).trans H₇)
end
end
end Mine
namespace Mine
noncomputable section
section
variable {w : World} {A : Around} {E : Value → Shared → Prop} {h₀ h h' : Heap} {L RA LA : Addr} {m : Str → Option Value} {g : Array GenState} {dr : Drawn} {t : Nat} {os : OsState} {ex : List Addr} {rows : List Row} {logs : List LogE} {R : Flow → Shared → Prop} {n : Int} {tn : Tok} {x y : Row} {j : Nat} {k wi : Int} {t1 t2 t3 t4 : Tok} {Q : Value → Shared → Prop}
/-- the cache of a row's log turns, and the frame's slots -/
theorem LawI.cached {d : Addr} {l : List Addr} (V : LawI w h₀ h L RA LA ex rows logs m) (G : Good0 w h₀) (hx : rows[j]? = some x) (c : Chg l h h') (hl : ∀ a ∈ l, a = 81 ∨ a = x.p.d ∨ a = L) (cd' : Cd h') (st' : St w h₀ h' { x.p with cv := .ref d } x.tv x.bf x.nf)
    (sd : (d == sysModules) = false) (dn : d ∉ x.p.addrs) (dq : x.p.cv = .ref d ∨ h.objs.size ≤ d) (ns' : h'.Ns L m) :
    LawI w h₀ h' L RA LA ex (rows.set j { x with p := { x.p with cv := .ref d } }) logs m ∧ Hold ex h h' := by
  have hm := List.mem_of_getElem? hx
  have X := V.row x hm
  obtain ⟨⟨a1, a2, a3, a4, a5⟩, ⟨b1, b2, b3⟩, ⟨e1, e2, e3⟩, f1⟩ := V.bne
  have pdo : x.p.d ∈ x.own := List.mem_cons_of_mem _ (List.mem_cons_of_mem _ (by simp))
  have hl' : ∀ a ∈ l, a ∈ base L RA LA ∨ ∃ x, rows[j]? = some x ∧ a ∈ x.own := fun a ha => by
    rcases hl a ha with q | q | q
    · exact .inl (by simp [q])
    · exact .inr ⟨x, hx, by rw [q]; exact pdo⟩
    · exact .inl (by simp [q])
  have nb : ∀ a, a ∉ base L RA LA → a ≠ x.p.d → a ∉ l := fun a n1 n2 q => by
    rcases hl a q with u | u | u
    · exact n1 (by simp [u])
    · exact n2 u
    · exact n1 (by simp [u])
  have nd : ∀ a ∈ base L RA LA, a ≠ x.p.d := fun a ha q => V.ob x hm x.p.d pdo (q ▸ ha)
  have nbl : ∀ a ∈ base L RA LA, a ≠ 81 → a ≠ L → a ∉ l := fun a ha n1 n2 q => by
    rcases hl a q with u | u | u
    · exact n1 u
    · exact nd a ha u
    · exact n2 u
  have dno : d ∉ x.own := fun q => by
    rcases dq with u | u
    · exact X.sep d (List.mem_cons_of_mem _ (List.mem_cons_of_mem _ (mem_cvL.mpr u))) q
    · exact live_ne (X.live d q) (low_size (Keep.refl h) u) rfl
  obtain ⟨q1, q2, q3⟩ := X.parts
  have tdl : x.td ∉ l := nb _ (V.ob x hm _ (by simp)) (fun q => q2 (by rw [q]; simp))
  have fal : x.fa ∉ l := nb _ (V.ob x hm _ (by simp)) (fun q => q3 (by rw [q]; simp))
  have bdl : x.bd ∉ l := nb _ (V.ro x hm _ (by simp)).1 (fun q => X.sep x.bd (by simp) (by rw [q]; exact pdo))
  have rl : x.r ∉ l := nb _ (V.ro x hm _ (by simp)).1 (fun q => X.sep x.r (by simp) (by rw [q]; exact pdo))
  have Y : RowOk w h₀ h' { x with p := { x.p with cv := .ref d } } := by
    refine ⟨st', X.told.at fun o e => c _ o tdl e, X.befo.at fun o e => c _ o bdl e, X.fresh.at fun o e => c _ o fal e, X.fap.at fun o e => c _ o fal e, X.list.at fun o e => c _ o rl e, fun d' q => ?_, X.nd, X.low, fun a ha => ?_⟩
    · have q' : Value.ref d = .ref d' := q
      injection q' with q'; subst q'; exact sd
    · rcases List.mem_cons.mp ha with u | ha
      · exact X.sep a (by rw [show a = x.r from u]; simp)
      · rcases List.mem_cons.mp ha with u | ha
        · exact X.sep a (by rw [show a = x.bd from u]; simp)
        · have q' : Value.ref d = .ref a := mem_cvL.mp ha
          injection q' with q'; subst q'; exact dno
  refine ⟨V.gen (j := j) (y := { x with p := { x.p with cv := .ref d } }) (l := l) c hl' ⟨ns', Heap.ExtBut.refl _ _, V.fm.base.chg c fun a ha => ?_, V.fm.low⟩ V.mr V.ml (cell_chg V.c1 c (nbl _ (by simp) (Ne.symm a2) (Nat.succ_ne_self _))) (cell_chg V.c2 c (nbl _ (by simp) (Ne.symm a3) (Nat.ne_of_gt (Nat.lt_add_of_pos_right (by decide))))) cd' ?_ (list_chg V.ll c (nbl _ (by simp) (Ne.symm a5) e1)) (set_get hx) Y (fun a ha => .inl ⟨x, hx, ha⟩) (fun a ha => ?_) (fun e he => .inl he) (by rw [List.length_set]; exact V.n1) (by rw [List.length_set]; exact V.n3), V.hold c fun a ha => (hl' a ha).imp id fun ⟨z, hz, q⟩ => ⟨z, List.mem_of_getElem? hz, q⟩⟩
  · rcases hl a ha with q | q | q
    · rw [q]; exact V.low _ (by simp)
    · rw [q]; exact X.low _ pdo
    · rw [q]; exact V.low _ (by simp)
  · have : (rows.set j { x with p := { x.p with cv := .ref d } }).map (fun x => Value.ref x.r) = rows.map fun x => Value.ref x.r := by
      rw [List.map_set]
      apply List.ext_getElem?
      intro i
      rw [List.getElem?_set]
      split
      · rename_i q; subst q
        split
        · rw [List.getElem?_map, hx]; rfl
        · rename_i q; rw [List.getElem?_eq_none (Nat.not_lt.mp q)]
      · rfl
    rw [this]
    exact list_chg V.lr c (nbl _ (by simp) (Ne.symm a4) b1)
  · rcases List.mem_cons.mp ha with u | ha
    · exact .inl ⟨x, hx, by rw [show a = x.r from u]; simp⟩
    · rcases List.mem_cons.mp ha with u | ha
      · exact .inl ⟨x, hx, by rw [show a = x.bd from u]; simp⟩
      · have q' : Value.ref d = .ref a := mem_cvL.mp ha
        injection q' with q'; subst q'
        rcases dq with u | u
        · exact .inl ⟨x, hx, List.mem_cons_of_mem _ (List.mem_cons_of_mem _ (mem_cvL.mpr u))⟩
        · exact .inr (V.newTo (l := []) (hk := h) (Chg.refl _ _) (fun a ha => nomatch ha) V.blive (low_size (Keep.refl h) u))
/-- _law_reads of a row -/
theorem law_reads (G : Good0 w h₀) (hh : A.handled = none) (hroom : A.depth + 8 < recursionLimit) (hu : A.units + 110 < cLine) (hfr : A.frames = some [envL w L]) (V : LawI w h₀ h L RA LA ex rows logs m) (hx : rows[j]? = some x)
    (kk : ∀ h' t' g' d, (AllBare g → AllBare g') → LawI w h₀ h' L RA LA ex (rows.set j { x with p := { x.p with cv := .ref d } }) logs m → Hold ex h h' → Q (.bool true) ⟨h', g', dr, t', os⟩) :
    wpAny (MM w) A (call (.ref 186) [.ref x.r]) Q E ⟨h, g, dr, t, os⟩ := by
  have hm := List.mem_of_getElem? hx
  have X := V.row x hm
  obtain ⟨oL, es, ep, ho, hdd, hsk, hf⟩ := id V.fm.ns
  have nfl : ∀ vs, oL.data ≠ .fields vs := fun vs q => by rw [hdd] at q; cases q
  refine reads_ok (outer := [envL w L]) G V.fm.base (V.low 81 (by simp)) hh hroom hu hfr X.st V.cd X.told X.befo X.fresh X.cvs X.list ?_ ?_ ?_ ?_ ?_
  · exact ⟨by show ScopeKind.function ≠ .module; decide, ⟨L, oL, rfl, rfl, ho, nfl⟩, trivial⟩
  · intro a ha
    rw [List.mem_singleton.mp (show a ∈ [L] from ha)]
    exact ⟨m, "rows", _, V.fm.ns, V.mr⟩
  · intro a ha
    rw [List.mem_singleton.mp (show a ∈ [L] from ha)]
    exact V.low _ (by simp)
  · intro a ha q
    rw [List.mem_singleton.mp (show a ∈ [L] from q)] at ha
    exact V.ob x hm L (List.mem_cons_of_mem _ (List.mem_cons_of_mem _ ha)) (by simp)
  · intro h' t' g' d bare sd dn dq st' cd' c' sl
    obtain ⟨s, hs⟩ := sl L (List.mem_singleton.mpr rfl : L ∈ [L]) oL ho nfl
    obtain ⟨V', H'⟩ := V.cached (d := d) G hx c' (fun a ha => by
      have ha' : a ∈ [81, x.p.d, L] := ha
      simp only [List.mem_cons, List.not_mem_nil, or_false] at ha'
      exact ha') cd' st' sd dn dq ⟨_, es, ep, hs, hdd, hsk, hf⟩
    exact kk h' t' g' d bare V' H'
/-- the check at a turn's end -/
theorem check_ok (G : Good0 w h₀) (hh : A.handled = none) (hroom : A.depth + 8 < recursionLimit) (hu : A.units + 110 < cLine) (hfr : A.frames = some [envL w L]) (V : LawI w h₀ h L RA LA ex rows logs m) (jl : j < rows.length) (mn : m "number" = some (.int n tn)) (mp : m "place" = some (.int j t4))
    (kk : ∀ h' t' g' rows', (AllBare g → AllBare g') → LawI w h₀ h' L RA LA ex rows' logs m → Hold ex h h' → R .next ⟨h', g', dr, t', os⟩) :
    wpAny (MM w) A (execs ((turnB w).drop 8) (envL w L)) R E ⟨h, g, dr, t, os⟩ := by
  have hx : rows[j]? = some rows[j] := List.getElem?_eq_getElem jl
  generalize rows[j] = x at hx
  have n3 := V.n3
  refine wpAny_execs_cons (wpAny_If (isTrue_and (wpAny_isTrue_Compare1 (wpAny_BinOp (n_loc V.fm (v := .int n tn) (wpAny_Constant_int (PyProof.Rows.mod_int' (by decide) (wpAny_Constant_int (PyProof.Rows.ne_int (wpAny_truthy_bool ?_))))) mn)))))
  cases h5 : (n.fmod 5 != 3) with
  | false =>
    rw [if_neg (by decide), if_neg (by decide)]
    exact wpAny_execs_nil (wpAny_execs_nil (kk h _ g rows id V (Hold.refl _ _)))
  | true =>
    rw [if_pos rfl]
    refine isTrue_and (isTrue_not (isTrue_plain (n_call1 G V.fm (g_reads w) (by kernel_rfl) (Subscript_ (n_loc V.fm (v := .ref RA) (n_loc V.fm (v := .int j t4) (item_listL V.lr.isList (x := .ref x.r) (by omega) (by omega) (by rw [Int.toNat_natCast, List.getElem?_map, hx]; rfl) ⟨V.fm.base, law_reads G hh hroom hu hfr V hx fun h' t' g' d bare V' H' => wpAny_truthy_bool ?_⟩) mp) V.mr)))))
    rw [if_neg (by decide), if_neg (by decide)]
    exact wpAny_execs_nil (wpAny_execs_nil (kk h' _ g' _ bare V' H'))
/-- a turn -/
theorem turn_ok (G : Good0 w h₀) (hh : A.handled = none) (hroom : A.depth + 8 < recursionLimit) (hu : A.units + 110 < cLine) (hfr : A.frames = some [envL w L]) (V : LawI w h₀ h L RA LA ex rows logs m) (hnl : logs.length < 500) (mn : m "number" = some (.int n tn))
    (kk : ∀ h' t' g' m' rows' logs', (AllBare g → AllBare g') → LawI w h₀ h' L RA LA ex rows' logs' m' → logs'.length ≤ logs.length + 1 → Hold ex h h' → R .next ⟨h', g', dr, t', os⟩) :
    wpAny (MM w) A (execs (turnB w) (envL w L)) R E ⟨h, g, dr, t, os⟩ := by
  refine pro_ok G hh V mn fun h₁ u₁ m₁ j x k wi t1 t2 t3 t4 V₁ hx hk hw P H₁ => ?_
  have jl : j < rows.length := by
    rcases Nat.lt_or_ge j rows.length with q | q
    · exact q
    · rw [List.getElem?_eq_none q] at hx; cases hx
  have f0 : 0 ≤ n.fmod 7 := Int.fmod_nonneg_of_pos _ (by decide)
  have f7 : n.fmod 7 < 7 := Int.fmod_lt_of_pos _ (by decide)
  have one : ∀ h' t' y, LawI w h₀ h' L RA LA ex (rows.set j y) logs m₁ → Hold ex h₁ h' → wpAny (MM w) A (execs ((turnB w).drop 8) (envL w L)) R E ⟨h', g, dr, t', os⟩ := fun h' t' y V' H' =>
    check_ok (j := j) (t4 := t4) G hh hroom hu hfr V' (by rw [List.length_set]; exact jl) P.num P.place fun h'' t'' g'' rows'' b V'' H'' => kk h'' t'' g'' m₁ rows'' logs b V'' (Nat.le_succ _) ((H₁.trans H').trans H'')
  have two : ∀ h' t' m' rows', LawI w h₀ h' L RA LA ex rows' logs m' → m' "number" = some (.int n tn) → m' "place" = some (.int j t4) → j < rows'.length → Hold ex h₁ h' → wpAny (MM w) A (execs ((turnB w).drop 8) (envL w L)) R E ⟨h', g, dr, t', os⟩ := fun h' t' m' rows' V' q1 q2 q3 H' =>
    check_ok (j := j) (t4 := t4) G hh hroom hu hfr V' q3 q1 q2 fun h'' t'' g'' rows'' b V'' H'' => kk h'' t'' g'' m' rows'' logs b V'' (Nat.le_succ _) ((H₁.trans H').trans H'')
  by_cases c1 : n.fmod 7 < 2
  · exact act01 G hroom V₁ hx hk hw P c1 one
  by_cases c2 : n.fmod 7 = 2
  · exact act2 G hroom V₁ hx hk P c2 one
  by_cases c3 : n.fmod 7 = 3
  · exact act3 G hroom V₁ hx hk P c3 one
  by_cases c4 : n.fmod 7 = 4
  · exact act4 G hh hroom (by omega) V₁ hx P c4 hnl fun h' t' y e V' H' => check_ok (j := j) (t4 := t4) G hh hroom hu hfr V' (by rw [List.length_set]; exact jl) P.num P.place fun h'' t'' g'' rows'' b V'' H'' => kk h'' t'' g'' m₁ rows'' _ b V'' (by simp) ((H₁.trans H').trans H'')
  by_cases c5 : n.fmod 7 = 5
  · exact act5 G hh hroom V₁ hx P c5 two
  · exact act6 G hh hroom V₁ hx P (by omega) two
end
end
end Mine
namespace Mine
noncomputable section
section
variable {w : World} {A : Around} {E : Value → Shared → Prop} {h₀ h h' : Heap} {L RA LA I SA : Addr} {m : Str → Option Value} {g g₀ : Array GenState} {dr : Drawn} {t : Nat} {os : OsState} {ex ex' : List Addr} {rows : List Row} {logs : List LogE} {R : Result → Shared → Prop}
theorem LawI.sub (V : LawI w h₀ h L RA LA ex rows logs m) (q : ∀ a ∈ ex', a ∈ ex) : LawI w h₀ h L RA LA ex' rows logs m :=
  { V with exs := fun a ha => V.exs a (q a ha), exl := fun a ha => V.exl a (q a ha) }
/-- an iterator of nobody's turns -/
theorem LawI.itE {o : Obj} {fs : Array Value} (V : LawI w h₀ h L RA LA ex rows logs m) (G : Good0 w h₀) (e1 : I ∉ base L RA LA) (e2 : ∀ y ∈ rows, I ∉ y.own) (nx : I ∉ ex) (li : h₀.get? I = none) (ho : h.get? I = some o) (hd : o.data = .fields fs) (nt : ∀ u v, h.get? I ≠ some (tup2 u v)) (c : Chg [I] h h') : LawI w h₀ h' L RA LA ex rows logs m := by
  have nb : ∀ a ∈ base L RA LA, a ∉ [I] := fun a ha q => e1 (by rw [List.mem_singleton] at q; rw [← q]; exact ha)
  have ntl : ∀ a ∈ [I], ∀ u v, h.get? a ≠ some (tup2 u v) := fun a ha => by rw [List.mem_singleton] at ha; subst ha; exact nt
  exact { fm := V.fm.chg c (nb L (by simp)) fun a ha => by rw [List.mem_singleton] at ha; subst ha; exact li
          mr := V.mr, ml := V.ml
          c1 := cell_chg V.c1 c (nb _ (by simp)), c2 := cell_chg V.c2 c (nb _ (by simp))
          cd := V.cd.chg c (nb _ (by simp)) (by rw [List.mem_singleton]; intro q; rw [← q, G.X 85 _ rfl] at li; cases li)
          lr := list_chg V.lr c (nb _ (by simp)), ll := list_chg V.ll c (nb _ (by simp))
          row := fun x hx => (V.row x hx).chg c ntl (fun a ha q => e2 x hx (by rw [List.mem_singleton] at q; rw [← q]; exact ha)) fun a ha q => by
            rw [List.mem_singleton] at q
            exact (V.row x hx).rofields a ha o fs (by rw [q]; exact ho) hd
          log := fun e he => (V.log e he).chg c ntl (fun q => by
            rw [List.mem_singleton] at q
            obtain ⟨_, _, _, _, ⟨_, ⟨o', es, ep, ho', _, hd', _⟩, _⟩, _⟩ := (V.log e he).eq
            rw [q, ho] at ho'; cases ho'; rw [hd] at hd'; cases hd') fun q => by
            rw [List.mem_singleton] at q
            obtain ⟨_, _, _, _, _, ⟨_, ⟨o', es, ep, ho', _, hd', _⟩, _⟩, _⟩ := (V.log e he).eq
            rw [q, ho] at ho'; cases ho'; rw [hd] at hd'; cases hd'
          oo := V.oo, ob := V.ob, ro := V.ro, lo := V.lo, exs := V.exs
          exl := fun a ha => by
            obtain ⟨o, ho⟩ := V.exl a ha
            exact ⟨o, c a o (fun q => nx (by rw [List.mem_singleton] at q; rw [← q]; exact ha)) ho⟩
          bn := V.bn, low := V.low, n1 := V.n1, n3 := V.n3 }
theorem listIter_notup {l : Addr} {i : Nat} (hit : h.IsListIter I l i) : ∀ u v, h.get? I ≠ some (tup2 u v) := fun u v e => by
  obtain ⟨_, ho, hc, _⟩ := hit
  exact ne_cls e ho rfl hc (by decide) rfl
/-- the rounds of the script -/
theorem script_loop {vs : List Value} {ns : List Int} {px : Pos} (G : Good0 w h₀) (hh : A.handled = none) (hroom : A.depth + 8 < recursionLimit) (hu : A.units + 110 < cLine) (hfr : A.frames = some [envL w L]) (hvs : IntsAre vs ns) (hlen : vs.length ≤ 16) (li : h₀.get? I = none) (SI : SA ≠ I)
    (kk : ∀ h' t' g' m' rows' logs', (AllBare g₀ → AllBare g') → LawI w h₀ h' L RA LA [] rows' logs' m' → logs'.length ≤ 16 → R (.ok .next) ⟨h', g', dr, t', os⟩) :
    ∀ (n i : Nat) (h : Heap) (t : Nat) (g : Array GenState) (m : Str → Option Value) (rows : List Row) (logs : List LogE), i + n = vs.length → LawI w h₀ h L RA LA [I, SA] rows logs m → h.IsListIter I SA i → h.IsList SA vs.toArray → logs.length ≤ i → (AllBare g₀ → AllBare g) →
      codeAny (MM w) A (.forLoop (.Name "number" px) (.ref I) (turnB w) [] (envL w L)) R ⟨h, g, dr, t, os⟩ := by
  intro n
  induction n with
  | zero =>
    intro i h t g m rows logs hi V hit hl hlg bare
    have : i = vs.length := by omega
    subst this
    refine f_none (wpAny_pyNext_list_end (s := ⟨h, g, dr, t, os⟩) hh hit hl (by simp) fun h₁ x₁ => ⟨rfl, wpAny_execs_nil ?_⟩)
    obtain ⟨o, ho, hc, hd⟩ := id hit
    obtain ⟨q1, q2⟩ := V.exs I (by simp)
    exact kk h₁ t g m rows logs bare ((V.sub (ex' := []) (fun a ha => nomatch ha)).itE G q1 q2 (by simp) li ho hd (listIter_notup hit) fun b o n e => x₁ b o (by simpa using n) e) (by omega)
  | succ n ih =>
    intro i h t g m rows logs hi V hit hl hlg bare
    have hvi : i < vs.length := by omega
    obtain ⟨num, tn, hv, hni⟩ := hvs.at i vs[i] (List.getElem?_eq_getElem hvi)
    refine f_some (wpAny_pyNext_list_item (s := ⟨h, g, dr, t, os⟩) hit hl (x := .int num tn) (by rw [List.getElem?_toArray, List.getElem?_eq_getElem hvi, hv]) fun h₁ it₁ s₁ => ⟨_, rfl, ?_⟩)
    replace s₁ : Heap.SameBut I h h₁ := s₁
    refine wpAny_of_eq (rfl : letOwnedTupleGo (.Name "number" px) (.ref I) (.int num tn) = pure ()) ?_
    obtain ⟨o, ho, hc, hd⟩ := id hit
    have V₁ := V.it G (by simp) li ho hd (listIter_notup hit) (Chg.of_same s₁ (by simp)) (let ⟨o, ho, _⟩ := it₁; ⟨o, ho⟩)
    refine wpAny_assign_Name (m_store V₁.fm rfl rfl fun h₂ t₂ fm₂ => ?_)
    have V₂ := V₁.put G fm₂ (by exact V.mr) (by exact V.ml)
    have H₂ := V₁.putH fm₂
    have sa₁ : h₁.IsList SA vs.toArray := hl.at fun o e => (s₁.2 _ SI).trans e
    refine turn_ok (n := num) (tn := tn) G hh hroom hu hfr V₂ (by omega) rfl fun h₃ t₃ g₃ m₃ rows₃ logs₃ b₃ V₃ l₃ H₃ => ?_
    have H : Hold [I, SA] h₁ h₃ := H₂.trans H₃
    exact ih (i + 1) h₃ t₃ g₃ m₃ rows₃ logs₃ (by omega) V₃ (by obtain ⟨o, ho, r⟩ := it₁; exact ⟨o, H I (by simp) o ho, r⟩) (sa₁.at fun o e => H SA (by simp) o e) (by omega) fun q => b₃ (bare q)
end
end
end Mine
namespace Mine
noncomputable section
noncomputable abbrev pairScope : Scope := { kind := .function, names := [(Str.ofString ".0", .local), (Str.ofString "pair", .local)], isGenerator := false, isCoroutine := false, more := [] }
noncomputable abbrev tableScope : Scope := { kind := .function, names := [(Str.ofString ".0", .local), (Str.ofString "known", .local), (Str.ofString "table", .free)], isGenerator := false, isCoroutine := false, more := [] }
theorem TupsAt.app {h : Heap} {vs ws : List Value} {ks js : List Int} {ov : Int → Value} (a : TupsAt h vs ks ov) (b : TupsAt h ws js ov) : TupsAt h (vs ++ ws) (ks ++ js) ov := by
  refine ⟨by rw [List.length_append, List.length_append, a.1, b.1], fun i v k e1 e2 => ?_⟩
  rcases Nat.lt_or_ge i vs.length with q | q
  · exact a.2 i v k (by rwa [List.getElem?_append_left q] at e1) (by rwa [List.getElem?_append_left (a.1 ▸ q)] at e2)
  · exact b.2 (i - vs.length) v k (by rwa [List.getElem?_append_right q] at e1) (by rwa [List.getElem?_append_right (a.1 ▸ q), ← a.1] at e2)
section
variable {w : World} {A : Around} {E : Value → Shared → Prop} {h₀ h hb : Heap} {L a d : Addr} {m : Str → Option Value} {g : Array GenState} {dr : Drawn} {t : Nat} {os : OsState} {p : Ptr} {tv : Int → Option (Option Bool)} {bf : Int → Option Bool} {nf : Int → Bool} {Q : Value → Shared → Prop} {p1 p2 p3 p4 p5 pos : Pos} {ks : List Int} {vs : List Value}
/-- [pair for pair in held.iteritems()] -/
theorem ev_pairs (G : Good0 w h₀) (n81 : h₀.get? 81 = none) (hh : A.handled = none) (hroom : A.depth + 7 < recursionLimit) (fm : Fm h₀ L hb h m) (X : St w h₀ h p tv bf nf) (hc : Cd h) (held : m "held" = some (.ref p.x))
    (kk : ∀ h' t' g' D ys, (AllBare g → AllBare g') → Chg [81] h h' → Cd h' → h.get? D = none → h'.IsList D ys.toArray → TupsAt h' ys (kn tv) (ovOf tv) → Q (.ref D) ⟨h', g', dr, t', os⟩)
    (he : eval (.Call (.Attribute (.Name "held" p3) "iteritems" p4) [] [] p5) (envL w L) = (do
      let ov ← eval (.Name "held" p3) (envL w L)
      standAt p4.atName
      let (fx, first) ← holding [ov] (getMethod ov "iteritems" (do return ((← importBound (.Name "held" p3) (envL w L)).getD true)))
      callWith p5 fx first (backTo p5 (starEach [] (envL w L))) []) := by rfl) :
    wpAny (MM w) A (eval (.ListComp (.Name "pair" p1) [⟨.Name "pair" p2, .Call (.Attribute (.Name "held" p3) "iteritems" p4) [] [] p5, [], 0⟩] pairScope pos) (envL w L)) Q E ⟨h, g, dr, t, os⟩ := by
  have k3 := kn_len tv
  have big := G.size fm.base
  rw [eval_ListComp]
  refine wpAny_comprehension_free (use := none) (cl := []) rfl (fun _ => rfl) rfl rfl (by decide) ?_
  obtain ⟨D₁, Ol₁, S₁, Gs₁, N₁, X₁, r₁, _⟩ := id X
  refine n_um0 G fm X₁ (f_iteritems w) (fn93 w) (iteritems_ok G fm.base n81 (by omega) hh X hc fun h₂ t₂ g₂ I l₂ vs₂ c₂' ab₂ hl₂ hI lI ho₂ hit x₂ c₂ cd₂ => ?_) rfl (by kernel_rfl) held (he := he)
  refine wpAny_pyIter_listiter (s := ⟨h₂, g₂, dr, t₂, os⟩) hit ?_
  have vsl : vs₂.length = (kn tv).length := x₂.1
  have Ilt : I < h₂.objs.size := let ⟨_, ho, _⟩ := hit; Heap.lt_size ho
  refine lc_it (J := fun i ys h => TupsAt h ys ((kn tv).take i) (ovOf tv) ∧ TupsAt h vs₂ (kn tv) (ovOf tv)) (vs := vs₂) hh hit lI ⟨_, ho₂, rfl, _, rfl⟩ (by omega) (by decide) (by rfl) (fun _ _ _ _ j q => ⟨j.1.at q, j.2.at q⟩) ⟨⟨rfl, fun i v k e => by simp at e⟩, x₂⟩ ?_ ?_
  · intro C i v h' t' m' ys hC hi hv hy hns kp hit' j
    have hik : i < (kn tv).length := by omega
    have hkk : (kn tv)[i]? = some (kn tv)[i] := List.getElem?_eq_getElem hik
    refine rd_name rfl rfl rfl hns fun h₄ t₄ s₄ n₄ => tests0 ?_
    rw [if_pos rfl]
    have up : ∀ b u v, h'.get? b = some (tup2 u v) → h₄.get? b = some (tup2 u v) := fun b u v e => (s₄.2 b (by
      rintro rfl
      exact ns_notup hns u v e)).trans e
    refine wpAny_Name (wpAny_loadName_local rfl rfl n₄ rfl ⟨h₄, _, rfl, Keep.refl _, ?_, j.2.at up⟩) (by decide)
    rw [take_succ' hkk]
    have j4 := j.1.at up
    have x4 := j.2.at up
    refine j4.app ⟨rfl, fun i' v' k' e1 e2 => ?_⟩
    cases i' with
    | zero =>
      cases e1; cases e2
      exact x4.2 i _ _ hv hkk
    | succ i' => simp at e1
  intro C D₁ h₃ t₃ m₃ ys hC hD hCD hy hns hpl ch j
  rw [vsl, List.take_length] at j
  refine ⟨m₃, hns, fun h₄ s₄ => ?_⟩
  replace s₄ : Heap.SameBut C h₃ h₄ := s₄
  obtain ⟨nD, hD'⟩ := hpl
  have j4 := j.1.at (h' := h₄) fun b u v e => (s₄.2 b (by rintro rfl; exact ns_notup hns u v e)).trans e
  have c₄ : Chg [81] h h₄ := fun b o n e => by
    have e1 := c₂ b o n e
    exact (s₄.2 b (Nat.ne_of_lt (Nat.lt_of_lt_of_le (Heap.lt_size e1) hC))).trans (ch b o (by rw [List.mem_singleton]; exact Nat.ne_of_lt (Nat.lt_of_lt_of_le (Heap.lt_size e) hI)) e1)
  have cI : Chg [I, C] h₂ h₄ := fun b o n e => by
    simp only [List.mem_cons, List.not_mem_nil, or_false, not_or] at n
    exact (s₄.2 b n.2).trans (ch b o (by simpa using n.1) e)
  have lowI : ∀ n : Nat, n ≤ 203 → n ∉ [I, C] := fun n hn e => by
    have q1 : 203 < I := Nat.lt_of_lt_of_le big hI
    have q2 : 203 < C := Nat.lt_of_lt_of_le q1 (Nat.le_trans (Nat.le_of_lt Ilt) hC)
    simp only [List.mem_cons, List.not_mem_nil, or_false] at e
    rcases e with e | e
    · exact Nat.lt_irrefl 203 (Nat.lt_of_lt_of_le (show 203 < n by rw [e]; exact q1) hn)
    · exact Nat.lt_irrefl 203 (Nat.lt_of_lt_of_le (show 203 < n by rw [e]; exact q2) hn)
  exact kk h₄ _ g₂ D₁ ys ab₂ c₄ (cd₂.chg cI (lowI 81 (by decide)) (lowI 85 (by decide))) (low_size (Keep.refl h) (Nat.le_trans (Nat.le_trans hI (Nat.le_of_lt Ilt)) hD)) ⟨_, (s₄.2 D₁ (Ne.symm hCD)).trans hD', rfl, _, rfl⟩ j4
/-- [pair[1] for pair in pairs] -/
theorem ev_second (hh : A.handled = none) (fm : Fm h₀ L hb h m) (hx : m "pairs" = some (.ref a)) (hl : h.IsList a vs.toArray) (hv : TupsAt h vs ks (ovOf tv)) (hz : ks.length < 1000)
    (kk : ∀ h' t' D, Keep h h' → h.get? D = none → h'.IsList D (ks.map (ovOf tv)).toArray → Q (.ref D) ⟨h', g, dr, t', os⟩) :
    wpAny (MM w) A (eval (.ListComp (.Subscript (.Name "pair" p1) (.Constant (.int 1) 0 p2) p3) [⟨.Name "pair" p4, .Name "pairs" p5, [], 0⟩] pairScope pos) (envL w L)) Q E ⟨h, g, dr, t, os⟩ := by
  refine lc_ev (cl := []) (J := fun i ys h => ys = (ks.take i).map (ovOf tv) ∧ TupsAt h vs ks (ovOf tv)) fm hh hx hl (by rw [hv.1]; exact hz) (by rfl) (by decide) (by rfl) (by decide) rfl rfl rfl (fun _ _ _ _ j q => ⟨j.1, j.2.at q⟩) ⟨rfl, hv⟩ ?_ ?_
  · intro C I i v h' t' m' ys hC hi hvi hy hns kp' hit j
    have hik : i < ks.length := by rw [← hv.1]; exact hi
    have hkk : ks[i]? = some ks[i] := List.getElem?_eq_getElem hik
    refine rd_name rfl rfl rfl hns fun h₄ t₄ s₄ n₄ => tests0 ?_
    rw [if_pos rfl]
    have j4 := j.2.at (h' := h₄) fun b u v e => (s₄.2 b (by rintro rfl; exact ns_notup hns u v e)).trans e
    obtain ⟨T, tk, rfl, hT⟩ := j4.2 i v _ hvi hkk
    refine Subscript_ (wpAny_Name (wpAny_loadName_local rfl rfl n₄ rfl (wpAny_Constant_int (item_tupleL (l := [.int ks[i] tk, ovOf tv ks[i]]) (j := 1) (x := ovOf tv ks[i]) ⟨_, hT, rfl, _, rfl⟩ (by decide) (by decide) (seqIndex_at (by decide) (by show (1 : Int) < 2; decide)) rfl ⟨h₄, _, rfl, Keep.refl _, ?_, j4⟩))) (by decide))
    rw [take_succ' hkk, List.map_append, j.1]; rfl
  intro h₂ t₂ D₂ ys k₂ nD lD j
  rw [hv.1, List.take_length] at j
  rw [j.1] at lD
  exact kk h₂ _ D₂ k₂ nD lD
/-- [table[known] for known in table] -/
theorem ev_table (hh : A.handled = none) (hce : h.IsCell (L + 2) (some (.ref d))) (dd : h.DictOf (IK w) d (ks.map fun k => (k, ovOf tv k))) (ds : (d == sysModules) = false) (hz : ks.length < 1000)
    (kk : ∀ h' t' D, Keep h h' → h.get? D = none → h'.IsList D (ks.map (ovOf tv)).toArray → Q (.ref D) ⟨h', g, dr, t', os⟩) :
    wpAny (MM w) A (eval (.ListComp (.Subscript (.Name "table" p1) (.Name "known" p2) p3) [⟨.Name "known" p4, .Name "table" p5, [], 0⟩] tableScope pos) (envL w L)) Q E ⟨h, g, dr, t, os⟩ := by
  obtain ⟨ep, hda⟩ := dd.dictAt
  have dlt : d < h.objs.size := hda.lt_size
  have nd := dict_nd dd
  have hnd : ks.Nodup := by rw [List.map_map] at nd; simpa [Function.comp_def] using nd
  rw [eval_ListComp]
  refine wpAny_comprehension_free (use := none) (cl := [("table", L + 2)]) rfl (fun _ => rfl) rfl rfl (by decide) ?_
  refine n_cell (c := L + 2) hce ?_
  refine wpAny_pyIter_dict (knd := IK w) (s := ⟨h, g, dr, t, os⟩) ds hda ?_
  rw [List.length_map]
  have k₁ : Keep h (h.push { cls := .type "dict_keyiterator", data := .fields #[.ref d, .int 0 0, .int ks.length 0, .int ep 0] }) := fun b o e => Heap.get?_push_of_some _ e
  have it₁ : (h.push { cls := .type "dict_keyiterator", data := .fields #[.ref d, .int 0 0, .int ks.length 0, .int ep 0] }).IsKeyIter h.objs.size d 0 (ks.map fun k => (k, ovOf tv k)).length ep := ⟨_, Heap.get?_push_size _ rfl, rfl, by rw [List.length_map]; rfl⟩
  have z₁ : (h.push { cls := .type "dict_keyiterator", data := .fields #[.ref d, .int 0 0, .int ks.length 0, .int ep 0] }).objs.size = h.objs.size + 1 := Heap.size_push ..
  show wpAny _ _ _ _ _ ⟨h.push { cls := .type "dict_keyiterator", data := .fields #[.ref d, .int 0 0, .int ks.length 0, .int ep 0] }, g, dr, t, os⟩
  generalize h.push { cls := .type "dict_keyiterator", data := .fields #[.ref d, .int 0 0, .int ks.length 0, .int ep 0] } = h₁ at k₁ it₁ z₁ ⊢
  have up : ∀ (h' : Heap), (∀ b o, b ∉ [h.objs.size] → h₁.get? b = some o → h'.get? b = some o) → Keep h h' := fun h' q b o e => q b o (by rw [List.mem_singleton]; exact Nat.ne_of_lt (Heap.lt_size e)) (k₁ b o e)
  refine p_comp (g := g) (dr := dr) (os := os) (J := fun i ys _ => ys = (ks.take i).map (ovOf tv)) (W := Walks.dictKeys (knd := IK w) hh h.objs.size d (Nat.ne_of_lt dlt) (ks.map fun k => (k, ovOf tv k)) ep) (by rw [List.length_map]; exact hz) ⟨it₁, hda.keep k₁⟩ (fun b hb => ?_) (by decide) (by rfl) (fun i ys h1 h2 j q => j) rfl
    (fun C i v h' t' m ys hC hi hv hy hns hst q j => ?_) (fun C D h' t' m ys hC hD hCD hy hns hpl q j => ?_)
  · simp only [List.mem_cons, List.not_mem_nil, or_false] at hb
    rcases hb with rfl | rfl
    · rw [z₁]; exact Nat.lt_succ_self _
    · rw [z₁]; exact Nat.lt_succ_of_lt dlt
  · obtain ⟨k, x, hkx, hkey⟩ := hv
    obtain ⟨tk, rfl⟩ := Value.isInt_shape hkey
    have hkk : ks[i]? = some k := by
      rw [List.getElem?_map] at hkx
      obtain ⟨k', e1, e2⟩ := Option.map_eq_some_iff.mp hkx
      cases e2; exact e1
    have hmem : k ∈ ks := List.mem_of_getElem? hkk
    refine wpAny_mono (rd_name (w := w) (A := A) (g := g) (dr := dr) (os := os) (h := h') (t := t') (elt := .Subscript (.Name "table" p1) (.Name "known" p2) p3) (ifs := []) (x := "known") (px := p4) (v := .int k tk) (i := i) (ys := ys) (I := h.objs.size) (J := fun i ys _ => ys = (ks.take i).map (ovOf tv)) (cenv := compEnvC tableScope [("table", L + 2)] C (envL w L)) (C := C) rfl rfl rfl hns fun h₄ t₄ s₄ n₄ => tests0 ?_) (fun _ _ z => z) fun _ _ z => z
    rw [if_pos rfl]
    have kp := up h' q
    have k4 : Keep h h₄ := fun b o e => (s₄.2 b (Nat.ne_of_lt (Nat.lt_of_lt_of_le (Heap.lt_size e) (by omega)))).trans (kp b o e)
    refine Subscript_ (n_cell (s := ⟨h₄, g, dr, t₄, os⟩) (c := L + 2) (hce.keeps k4) (wpAny_Name (wpAny_loadName_local rfl rfl n₄ rfl (d_item (k := k) (tk := tk) (v := ovOf tv k) (DictOf_at dd fun o e => k4 _ o e) ds (by rw [va_mapi, if_pos hmem]) fun t₅ => ⟨h₄, _, rfl, Keep.refl _, ?_⟩)) (by decide)))
    rw [take_succ' hkk, List.map_append, j]; rfl
  · have j' : ys = ks.map (ovOf tv) := by
      have := j
      rw [List.length_map, List.take_length] at this
      exact this
    subst j'
    refine ⟨m, hns, fun h₅ s₅ => ?_⟩
    replace s₅ : Heap.SameBut C h' h₅ := s₅
    obtain ⟨nD, hD'⟩ := hpl
    have kp := up h' q
    exact kk h₅ _ D (fun b o e => (s₅.2 b (Nat.ne_of_lt (Nat.lt_of_lt_of_le (Heap.lt_size e) (by omega)))).trans (kp b o e)) (low_size (Keep.refl h) (by omega)) ⟨_, (s₅.2 D (Ne.symm hCD)).trans hD', rfl, _, rfl⟩
end
end
end Mine
namespace Mine
noncomputable section
noncomputable abbrev endB (w : World) : List Stmt := forB ((bdOf (fdOf (ob203 w).1)).drop 3)
section
variable {w : World} {A : Around} {E : Value → Shared → Prop} {h₀ h h' : Heap} {L RA LA a : Addr} {m : Str → Option Value} {g : Array GenState} {dr : Drawn} {t : Nat} {os : OsState} {ex : List Addr} {rows : List Row} {logs : List LogE} {R : Flow → Shared → Prop} {x : Row} {j : Nat} {p : Ptr} {tv : Int → Option (Option Bool)} {bf : Int → Option Bool} {nf : Int → Bool} {l : List Addr}
theorem St.cvlog2 (X : St w h₀ h p tv bf nf) {d : Addr} (e : p.cv = .ref d) : ∃ Lg, LogAt w h d Lg ∧ IsLog Lg tv bf := by
  obtain ⟨_, _, _, _, _, Xa, r, c⟩ := X
  rcases c with c | ⟨d', c, _, lg⟩
  · rw [c] at e; cases e
  · rw [c] at e; injection e with e; subst e; exact ⟨_, lg, isLog Xa r⟩
theorem LawI.addEx (V : LawI w h₀ h L RA LA ex rows logs m) (lv : ∃ o, h.get? a = some o) (n1 : a ∉ base L RA LA) (n2 : ∀ y ∈ rows, a ∉ y.own) : LawI w h₀ h L RA LA (a :: ex) rows logs m :=
  { V with
    exs := fun b hb => by
      rcases List.mem_cons.mp hb with q | q
      · rw [q]; exact ⟨n1, n2⟩
      · exact V.exs b q
    exl := fun b hb => by
      rcases List.mem_cons.mp hb with q | q
      · rw [q]; exact lv
      · exact V.exl b q }
theorem Hold.tail (H : Hold (a :: ex) h h') : Hold ex h h' := fun b hb => H b (List.mem_cons_of_mem _ hb)
theorem LawI.c81H (V : LawI w h₀ h L RA LA ex rows logs m) (c : Chg [81] h h') : Hold ex h h' := V.hold c fun a ha => .inl (by rw [List.mem_singleton] at ha; simp [ha])
theorem cell_at {v : Option Value} (x : h.IsCell a v) (c : Chg l h h') (n : a ∉ l) : h'.IsCell a v := let ⟨o, ho, hd⟩ := x; ⟨o, c a o n ho, hd⟩
theorem tups_81 {vs : List Value} {ks : List Int} {ov : Int → Value} (x : TupsAt h vs ks ov) (cd : Cd h) (c : Chg [81] h h') : TupsAt h' vs ks ov := x.at fun b u v e => c b _ (fun q => by rw [List.mem_singleton] at q; subst q; exact cd.notup 81 (by simp) u v e) e
theorem list_81 {xs : Array Value} (x : h.IsList a xs) (cd : Cd h) (c : Chg [81] h h') : h'.IsList a xs := x.at fun o e => c a o (fun q => by
  rw [List.mem_singleton] at q; subst q
  obtain ⟨o1, ho1, _, n1, hd1⟩ := x
  obtain ⟨o2, ps, ho2, hd2⟩ := cd.at81
  rw [ho1] at ho2; cases ho2; rw [hd1] at hd2; cases hd2) e
theorem set_self {α : Type} {rows : List α} {j : Nat} {x y : α} (hx : rows[j]? = some x) : (rows.set j y)[j]? = some y := by
  have hj : j < rows.length := by
    rcases Nat.lt_or_ge j rows.length with q | q
    · exact q
    · rw [List.getElem?_eq_none q] at hx; cases hx
  rw [List.getElem?_set, if_pos rfl, if_pos hj]
/-- the checks at the law's end, for one row -/
theorem end_turn (G : Good0 w h₀) (hh : A.handled = none) (hroom : A.depth + 8 < recursionLimit) (hu : A.units + 110 < cLine) (hfr : A.frames = some [envL w L]) (V : LawI w h₀ h L RA LA ex rows logs m) (hx : rows[j]? = some x) (mrow : m "row" = some (.ref x.r))
    (kk : ∀ h' t' g' m' rows', (AllBare g → AllBare g') → LawI w h₀ h' L RA LA ex rows' logs m' → rows'.length = rows.length → Hold ex h h' → R .next ⟨h', g', dr, t', os⟩) :
    wpAny (MM w) A (execs (endB w) (envL w L)) R E ⟨h, g, dr, t, os⟩ := by
  -- the reads
  refine wpAny_execs_cons (wpAny_If (isTrue_not (isTrue_plain (n_call1 G V.fm (g_reads w) (by kernel_rfl) (n_loc V.fm (v := .ref x.r) ⟨V.fm.base, law_reads G hh hroom hu hfr V hx fun h₁ t₁ g₁ d₁ b₁ V₁ H₁ => wpAny_truthy_bool ?_⟩ mrow)))))
  rw [if_neg (by decide)]
  refine wpAny_execs_nil ?_
  generalize hy : ({ x with p := { x.p with cv := .ref d₁ } } : Row) = y at V₁
  have hy₁ : (rows.set j y)[j]? = some y := set_self hx
  have yr : y.r = x.r := by rw [← hy]
  have len₁ : (rows.set j y).length = rows.length := List.length_set ..
  generalize rows.set j y = rows₁ at V₁ hy₁ len₁
  have my := List.mem_of_getElem? hy₁
  have Y₁ := V₁.row y my
  -- held = row[0]
  refine wpAny_execs_cons (wpAny_Assign_Name (Subscript_ (n_loc V₁.fm (v := .ref y.r) (wpAny_Constant_int (item_list Y₁.list (x := .ref y.p.x) (by decide) (by decide) rfl ?_)) (by rw [yr]; exact mrow))))
  refine m_store V₁.fm rfl rfl fun h₂ t₂ fm₂ => ?_
  have V₂ := V₁.put G fm₂ (by exact V.mr) (by exact V.ml)
  have H₂ := V₁.putH fm₂
  have Y₂ := V₂.row y my
  obtain ⟨D₂, Ol₂, S₂, Gs₂, N₂, X₂, r₂, _⟩ := id Y₂.st
  -- table = held.to_dict()
  refine wpAny_execs_cons (wpAny_Assign_Name (n_um0 G V₂.fm X₂ (f_todict w) (fn136 w) (todict_ok G V₂.fm.base (V₂.low 81 (by simp)) (by omega) hh Y₂.st V₂.cd fun h₃ t₃ g₃ dT b₃ dl dd₃ c₃ cd₃ => ?_) rfl (by kernel_rfl) rfl))
  have dN : h₂.get? dT = none := low_size (Keep.refl _) dl
  have dB : dT ∉ base L RA LA := fun q => live_ne (V₂.blive _ q) dN rfl
  have V₃ := (V₂.c81 c₃ cd₃).addEx (a := dT) (dict_live dd₃) dB fun z hz q => live_ne ((V₂.row z hz).live _ q) dN rfl
  have H₃ := V₂.c81H c₃
  have sT : (dT == sysModules) = false := G.sys V₂.fm.base dl
  obtain ⟨⟨a1, a2, a3, a4, a5⟩, ⟨b1, b2, b3'⟩, ⟨e1, e2, e3⟩, f1⟩ := V.bne
  obtain ⟨v2, cl2⟩ := V₃.c2
  refine m_storeC (v := .ref dT) V₃.fm cl2 (Nat.ne_of_gt (Nat.lt_add_of_pos_right (by decide))) (V.low _ (by simp)) rfl rfl rfl fun h₄ fm₄ ce₄ s₄ => ?_
  have V₄ := V₃.cell2 G s₄ ce₄
  have H₄ : Hold (dT :: ex) h₃ h₄ := V₃.hold (l := [L + 2]) (Chg.of_same s₄ (by simp)) fun a ha => .inl (by rw [List.mem_singleton] at ha; simp [ha])
  have Y₄ := V₄.row y my
  obtain ⟨D₄, Ol₄, S₄, Gs₄, N₄, X₄, r₄, _⟩ := id Y₄.st
  -- log = held.get_changelog()
  refine wpAny_execs_cons (wpAny_Assign_Name (n_um0 G V₄.fm X₄ (f_chlog' w) (fn115 w) (st_chlog G V₄.fm.base (by omega) hh Y₄.st fun h₅ t₅ d Lg st₅ c₅ dn dq lg₅ il => ?_) rfl (by kernel_rfl) rfl))
  have pdo : y.p.d ∈ y.own := List.mem_cons_of_mem _ (List.mem_cons_of_mem _ (by simp))
  have pdb : ∀ b ∈ base L RA LA, b ≠ y.p.d := fun b hb q => V₄.ob y my y.p.d pdo (q ▸ hb)
  have sd : (d == sysModules) = false := by
    rcases dq with q | q
    · exact Y₄.cvs d q
    · exact G.sys V₄.fm.base q
  have fm₅ := V₄.fm.chg c₅ (by simpa using pdb L (by simp)) fun a ha => by rw [List.mem_singleton] at ha; subst ha; exact Y₄.low _ pdo
  have cd₅ := V₄.cd.chg c₅ (by simpa using pdb 81 (by simp)) (by
    rw [List.mem_singleton]
    intro q
    have := Y₄.low _ pdo
    rw [← q, G.X 85 _ rfl] at this; cases this)
  obtain ⟨V₅, H₅⟩ := V₄.cached (d := d) G hy₁ c₅ (fun a ha => by rw [List.mem_singleton] at ha; exact .inr (.inl ha)) cd₅ st₅ sd dn dq fm₅.ns
  generalize hz : ({ y with p := { y.p with cv := .ref d } } : Row) = z at V₅
  have hz₅ : (rows₁.set j z)[j]? = some z := set_self hy₁
  have len₅ : (rows₁.set j z).length = rows.length := (List.length_set ..).trans len₁
  have zx : z.p.x = y.p.x := by rw [← hz]
  have zc : z.p.cv = .ref d := by rw [← hz]
  generalize rows₁.set j z = rows₅ at V₅ hz₅ len₅
  have mz := List.mem_of_getElem? hz₅
  have ce₅ : h₅.IsCell (L + 2) (some (.ref dT)) := cell_at ce₄ c₅ (by simpa using pdb _ (by simp))
  obtain ⟨v1, cl1⟩ := V₅.c1
  refine m_storeC (v := .ref d) V₅.fm cl1 (Nat.succ_ne_self _) (V.low _ (by simp)) rfl rfl rfl fun h₆ fm₆ cl₆ s₆ => ?_
  have V₆ := V₅.cell1 G s₆ cl₆
  have H₆ : Hold (dT :: ex) h₅ h₆ := V₅.hold (l := [L + 1]) (Chg.of_same s₆ (by simp)) fun a ha => .inl (by rw [List.mem_singleton] at ha; simp [ha])
  have ce₆ : h₆.IsCell (L + 2) (some (.ref dT)) := cell_at ce₅ (Chg.of_same s₆ (List.mem_singleton.mpr rfl)) (by rw [List.mem_singleton]; exact Nat.succ_ne_self _)
  have Z₆ := V₆.row z mz
  obtain ⟨D₆, Ol₆, S₆, Gs₆, N₆, X₆, r₆, _⟩ := id Z₆.st
  -- pairs
  have k3 := kn_len z.tv
  refine wpAny_execs_cons (wpAny_Assign_Name (wpAny_BinOp (n_um0 G V₆.fm X₆ (f_items w) (fn86 w) (st_items G V₆.fm.base (V.low 81 (by simp)) (by omega) hh Z₆.st V₆.cd fun h₇ t₇ g₇ l₁ vs₁ cc₁ b₇ hl₁ ho₁ x₁ c₇ cd₇ => ?_) rfl (by kernel_rfl) (by rw [zx]; rfl))))
  have V₇ := V₆.c81 c₇ cd₇
  have Z₇ := V₇.row z mz
  refine ev_pairs G (V.low 81 (by simp)) hh (by omega) V₇.fm Z₇.st V₇.cd (by rw [zx]; rfl) fun h₈ t₈ g₈ l₂ vs₂ b₈ c₈ cd₈ nl₂ hl₂ x₂ => ?_
  have V₈ := V₇.c81 c₈ cd₈
  have hl₁' : h₈.IsList l₁ vs₁.toArray := list_81 ⟨_, ho₁, rfl, _, rfl⟩ cd₇ c₈
  have x₁' := tups_81 x₁ cd₇ c₈
  have vl₁ := x₁.1
  have vl₂ := x₂.1
  refine n_concat hl₁' hl₂ (by omega) fun h₉ k₉ z₉ l₉ => ?_
  have V₉ := V₈.keep k₉
  have x₉ := (x₁'.app x₂).at (h' := h₉) fun b u v e => k₉ b _ e
  refine m_store V₉.fm rfl rfl fun h₁₀ t₁₀ fm₁₀ => ?_
  have V₁₀ := V₉.put G fm₁₀ (by exact V.mr) (by exact V.ml)
  have H₁₀ := V₉.putH fm₁₀
  have c₁₀ : Chg [L] h₉ h₁₀ := fun b o n e => fm₁₀.ext b o (by simpa using n) e
  have pL : h₈.objs.size ≠ L := Nat.ne_of_gt V₈.fm.ns.lt
  have l₁₀ : h₁₀.IsList h₈.objs.size (vs₁ ++ vs₂).toArray := l₉.at fun o e => c₁₀ _ o (by simpa using pL) e
  have x₁₀ := x₉.at (h' := h₁₀) fun b u v e => c₁₀ b _ (fun q => by rw [List.mem_singleton] at q; subst q; exact ns_notup V₉.fm.ns u v e) e
  have Z₁₀ := V₁₀.row z mz
  obtain ⟨D₁₀, Ol₁₀, S₁₀, Gs₁₀, N₁₀, X₁₀, r₁₀, _⟩ := id Z₁₀.st
  have n2L : L + 2 ≠ L := Nat.ne_of_gt (Nat.lt_add_of_pos_right (by decide))
  have ce₁₀ : h₁₀.IsCell (L + 2) (some (.ref dT)) := cell_at ((cell_at (cell_at ce₆ c₇ (by simpa using Ne.symm a3)) c₈ (by simpa using Ne.symm a3)).keeps k₉) c₁₀ (by simpa using n2L)
  have cl₁₀ : h₁₀.IsCell (L + 1) (some (.ref d)) := cell_at ((cell_at (cell_at cl₆ c₇ (by simpa using Ne.symm a2)) c₈ (by simpa using Ne.symm a2)).keeps k₉) c₁₀ (by simpa using Nat.succ_ne_self L)
  -- sides
  refine wpAny_execs_cons (wpAny_Assign_Name (wpAny_BinOp (wpAny_BinOp (n_um0 G V₁₀.fm X₁₀ (f_values w) (fn103 w) (values_ok G V₁₀.fm.base (V.low 81 (by simp)) (by omega) hh Z₁₀.st V₁₀.cd fun h₁₁ t₁₁ g₁₁ l₃ b₁₁ hl₃ ll₃ c₁₁ cd₁₁ => ?_) rfl (by kernel_rfl) (by rw [zx]; rfl)))))
  have V₁₁ := V₁₀.c81 c₁₁ cd₁₁
  have H₁₁ := V₁₀.c81H c₁₁
  refine ev_second (tv := z.tv) hh V₁₁.fm rfl (list_81 l₁₀ V₁₀.cd c₁₁) (tups_81 x₁₀ V₁₀.cd c₁₁) (by rw [List.length_append]; omega) fun h₁₂ t₁₂ l₄ k₁₂ nl₄ ll₄ => ?_
  refine n_concat (ll₃.at fun o e => k₁₂ _ o e) ll₄ (by rw [List.length_map, List.length_map, List.length_append]; omega) fun h₁₃ k₁₃ z₁₃ l₁₃ => ?_
  have k₁₁₁₃ : Keep h₁₁ h₁₃ := k₁₂.trans k₁₃
  have hold3 : Hold (dT :: ex) h₃ h₁₁ := ((((((H₄.trans H₅).trans H₆).trans (V₆.c81H c₇)).trans (V₇.c81H c₈)).trans (V₈.keepH k₉)).trans H₁₀).trans H₁₁
  have dd₁₃ : h₁₃.DictOf (IK w) dT ((kn y.tv).map fun k => (k, ovOf y.tv k)) := DictOf_at dd₃ fun o e => k₁₁₁₃ _ o (hold3 dT (by simp) o e)
  have tvz : y.tv = z.tv := by rw [← hz]
  rw [tvz] at dd₁₃
  refine ev_table (tv := z.tv) (d := dT) hh ((cell_at ce₁₀ c₁₁ (by simpa using Ne.symm a3)).keeps k₁₁₁₃) dd₁₃ sT (by omega) fun h₁₄ t₁₄ l₅ k₁₄ nl₅ ll₅ => ?_
  refine n_concat (l₁₃.at fun o e => k₁₄ _ o e) ll₅ (by simp only [List.length_append, List.length_map]; omega) fun h₁₅ k₁₅ z₁₅ l₁₅ => ?_
  have k₁₁₁₅ : Keep h₁₁ h₁₅ := k₁₁₁₃.trans (k₁₄.trans k₁₅)
  have V₁₅ := V₁₁.keep k₁₁₁₅
  refine m_store V₁₅.fm rfl rfl fun h₁₆ t₁₆ fm₁₆ => ?_
  have V₁₆ := V₁₅.put G fm₁₆ (by exact V.mr) (by exact V.ml)
  have H₁₆ := V₁₅.putH fm₁₆
  have c₁₆ : Chg [L] h₁₅ h₁₆ := fun b o n e => fm₁₆.ext b o (by simpa using n) e
  have sL : h₁₄.objs.size ≠ L := Nat.ne_of_gt (V₁₁.keep (k₁₁₁₃.trans k₁₄)).fm.ns.lt
  have l₁₆ := l₁₅.at (h' := h₁₆) fun o e => c₁₆ _ o (by simpa using sL) e
  have cl₁₆ : h₁₆.IsCell (L + 1) (some (.ref d)) := cell_at ((cell_at cl₁₀ c₁₁ (by simpa using Ne.symm a2)).keeps k₁₁₁₅) c₁₆ (by simpa using Nat.succ_ne_self L)
  obtain ⟨Lg', lg₁₆, il'⟩ := (V₁₆.row z mz).st.cvlog2 zc
  have l3 := il'.le3
  -- the last check
  refine wpAny_execs_cons (wpAny_If (isTrue_not (isTrue_plain (n_call1 G V₁₆.fm (g_bare w) (by kernel_rfl) (wpAny_BinOp (n_loc V₁₆.fm (v := .ref h₁₄.objs.size) (sides_ok (d := d) (Lg := Lg') hh cl₁₆ lg₁₆ sd (by omega) fun h₁₇ t₁₇ l₆ k₁₇ nl₆ pl₆ => ?_) rfl))))))
  refine n_concat (l₁₆.at fun o e => k₁₇ _ o e) pl₆.isList (by simp only [List.length_append, List.length_map, sides_len]; omega) fun h₁₈ k₁₈ z₁₈ l₁₈ => ⟨V₁₆.fm.base.trans (k₁₇.trans k₁₈), ?_⟩
  have V₁₈ := V₁₆.keep (k₁₇.trans k₁₈)
  have eus : ((kn z.tv).map (ovOf z.tv) ++ (kn z.tv ++ kn z.tv).map (ovOf z.tv) ++ (kn z.tv).map (ovOf z.tv)) ++ (sidesOf Lg').map bv = ((kn z.tv).map (jn z.tv) ++ (kn z.tv ++ kn z.tv).map (jn z.tv) ++ (kn z.tv).map (jn z.tv) ++ sidesOf Lg').map bv := by
    simp [List.map_append, List.map_map, Function.comp_def]
  rw [eus] at l₁₈
  refine bare_ok (us := (kn z.tv).map (jn z.tv) ++ (kn z.tv ++ kn z.tv).map (jn z.tv) ++ (kn z.tv).map (jn z.tv) ++ sidesOf Lg') G V₁₈.fm.base (by omega) (by omega) hh l₁₈ (by simp only [List.length_append, List.length_map, sides_len]; omega) fun h₁₉ t₁₉ k₁₉ => wpAny_truthy_bool ?_
  rw [if_neg (by decide)]
  have V₁₉ := (V₁₈.keep k₁₉).sub (ex' := ex) fun a ha => List.mem_cons_of_mem _ ha
  refine wpAny_execs_nil (wpAny_execs_nil (kk h₁₉ _ g₁₁ _ rows₅ (fun q => b₁₁ (b₈ (b₇ (b₃ (b₁ q))))) V₁₉ len₅ ?_))
  exact ((H₁.trans (H₂.trans H₃)).trans hold3.tail).trans (((V₁₁.sub (ex' := ex) fun a ha => List.mem_cons_of_mem _ ha).keepH k₁₁₁₅).trans (H₁₆.tail.trans fun a _ o e => k₁₉ a o (k₁₈ a o (k₁₇ a o e))))
end
end
end Mine
namespace Mine
noncomputable section
theorem nb_nat (a L RA LA : Nat) (b0 : 81 < L) (b1 : L + 2 < RA) (b2 : RA < LA) (p : L + 2 < a) (q : a < RA) : a ∉ [81, L, L + 1, L + 2, RA, LA] := by
  simp only [List.mem_cons, List.not_mem_nil, or_false, not_or]
  omega
theorem bn_nat (L RA LA : Nat) (b0 : 81 < L) (b1 : L + 2 < RA) (b2 : RA < LA) : [81, L, L + 1, L + 2, RA, LA].Nodup := by
  simp only [List.nodup_cons, List.mem_cons, List.not_mem_nil, or_false, not_or, not_false_eq_true, List.nodup_nil, and_true]
  omega
section
variable {w : World} {A : Around} {E : Value → Shared → Prop} {h₀ h h' : Heap} {L RA LA I SA : Addr} {m : Str → Option Value} {g g₀ : Array GenState} {dr : Drawn} {t : Nat} {os : OsState} {ex : List Addr} {rows : List Row} {logs : List LogE} {x y : Row} {j : Nat}
/-- the rounds over the rows -/
theorem end_loop {R : Result → Shared → Prop} {px : Pos} {N : Nat} (G : Good0 w h₀) (hh : A.handled = none) (hroom : A.depth + 8 < recursionLimit) (hu : A.units + 110 < cLine) (hfr : A.frames = some [envL w L]) (li : h₀.get? I = none)
    (kk : ∀ h' t' g' m' rows', (AllBare g₀ → AllBare g') → LawI w h₀ h' L RA LA [] rows' logs m' → R (.ok .next) ⟨h', g', dr, t', os⟩) :
    ∀ (n i : Nat) (h : Heap) (t : Nat) (g : Array GenState) (m : Str → Option Value) (rows : List Row), i + n = N → rows.length = N → LawI w h₀ h L RA LA [I] rows logs m → h.IsListIter I RA i → (AllBare g₀ → AllBare g) →
      codeAny (MM w) A (.forLoop (.Name "row" px) (.ref I) (endB w) [] (envL w L)) R ⟨h, g, dr, t, os⟩ := by
  intro n
  induction n with
  | zero =>
    intro i h t g m rows hi hN V hit bare
    have : i = N := by omega
    subst this
    refine f_none (wpAny_pyNext_list_end (s := ⟨h, g, dr, t, os⟩) hh hit V.lr.isList (by rw [List.getElem?_toArray, List.getElem?_eq_none (by rw [List.length_map]; omega)]) fun h₁ x₁ => ⟨rfl, wpAny_execs_nil ?_⟩)
    obtain ⟨o, ho, hc, hd⟩ := id hit
    obtain ⟨q1, q2⟩ := V.exs I (by simp)
    exact kk h₁ t g m rows bare ((V.sub (ex' := []) (fun a ha => nomatch ha)).itE G q1 q2 (by simp) li ho hd (listIter_notup hit) fun b o n e => x₁ b o (by simpa using n) e)
  | succ n ih =>
    intro i h t g m rows hi hN V hit bare
    have hil : i < rows.length := by omega
    have hx : rows[i]? = some rows[i] := List.getElem?_eq_getElem hil
    generalize rows[i] = x at hx
    refine f_some (wpAny_pyNext_list_item (s := ⟨h, g, dr, t, os⟩) hit V.lr.isList (x := .ref x.r) (by rw [List.getElem?_toArray, List.getElem?_map, hx]; rfl) fun h₁ it₁ s₁ => ⟨_, rfl, ?_⟩)
    replace s₁ : Heap.SameBut I h h₁ := s₁
    refine wpAny_of_eq (rfl : letOwnedTupleGo (.Name "row" px) (.ref I) (.ref x.r) = pure ()) ?_
    obtain ⟨o, ho, hc, hd⟩ := id hit
    have V₁ := V.it G (by simp) li ho hd (listIter_notup hit) (Chg.of_same s₁ (by simp)) (let ⟨o, ho, _⟩ := it₁; ⟨o, ho⟩)
    refine wpAny_assign_Name (m_store V₁.fm rfl rfl fun h₂ t₂ fm₂ => ?_)
    have V₂ := V₁.put G fm₂ (by exact V.mr) (by exact V.ml)
    have H₂ := V₁.putH fm₂
    refine end_turn (x := x) (j := i) G hh hroom hu hfr V₂ hx rfl fun h₃ t₃ g₃ m₃ rows₃ b₃ V₃ l₃ H₃ => ?_
    have H : Hold [I] h₁ h₃ := H₂.trans H₃
    exact ih (i + 1) h₃ t₃ g₃ m₃ rows₃ (by omega) (by omega) V₃ (by obtain ⟨o, ho, r⟩ := it₁; exact ⟨o, H I (by simp) o ho, r⟩) fun q => b₃ (bare q)
theorem LogOk.keep {e : LogE} (R : LogOk w h e) (k : Keep h h') : LogOk w h' e := R.chg (l := []) (Chg.of_keep k) (fun a ha => nomatch ha) (by simp) (by simp)
/-- the law's last line -/
theorem ret_ok {R : Flow → Shared → Prop} (hh : A.handled = none) (hu : A.units + 110 < cLine) (V : LawI w h₀ h L RA LA ex rows logs m) (hz : logs.length < 1000)
    (kk : ∀ h' t', Keep h h' → R (.ret (.bool true)) ⟨h', g, dr, t', os⟩) :
    wpAny (MM w) A (execs ((bdOf (fdOf (ob203 w).1)).drop 4) (envL w L)) R E ⟨h, g, dr, t, os⟩ := by
  refine wpAny_execs_cons (wpAny_Return_some (wpAny_Compare1 ?_))
  rw [eval_ListComp]
  refine wpAny_comprehension_free (use := none) (cl := []) rfl (fun _ => rfl) rfl rfl (by decide) ?_
  refine n_loc V.fm (v := .ref LA) ?_ V.ml
  refine lc_list (J := fun _ ys _ => ys = []) (vs := logs.map fun e => Value.ref e.T) hh V.ll.isList (by rw [List.length_map]; exact hz) (by decide) (by rfl) (fun _ _ _ _ j _ => j) rfl ?_ ?_
  · intro C I i v h' t' m' ys hC hi hv hy hns kp hit j
    rw [List.getElem?_map] at hv
    obtain ⟨e, he, rfl⟩ := Option.map_eq_some_iff.mp hv
    have O := V.log e (List.mem_of_getElem? he)
    refine rd_pair hh rfl rfl rfl rfl hns hit (kp _ _ O.tup) fun h₄ t₄ e4 n₄ => ?_
    have k4 : Keep h h₄ := fun b o q => e4 b o (Nat.ne_of_lt (Nat.lt_of_lt_of_le (Heap.lt_size q) hC)) (kp b o q)
    obtain ⟨L₁, L₂, tv, bf, lg1, lg2, i1, i2⟩ := (O.keep k4).eq
    refine tests1 (wpAny_isTrue_Compare1 (wpAny_Name (wpAny_loadName_local rfl rfl n₄ rfl (wpAny_Name (wpAny_loadName_local rfl rfl n₄ rfl (ne_logs lg1 lg2 i1 i2 O.sys O.sys' (by omega) (wpAny_truthy_bool ?_))) (by decide))) (by decide)))
    rw [if_neg (by decide)]
    exact ⟨h₄, _, rfl, Keep.refl _, j⟩
  · intro C D h' t' m' ys hC hD hCD hy hns hpl kp j
    subst j
    refine ⟨m', hns, fun h'' s'' => ?_⟩
    obtain ⟨n, hD'⟩ := hpl
    have hD'' := (s''.2 D (Ne.symm hCD)).trans hD'
    refine wpAny_List (args_nil ⟨Nat.zero_le _, ?_⟩)
    have k3 : Keep h'' (h''.push { cls := .type "list", data := .seq ([] : List Value).toArray }) := fun b o e => Heap.get?_push_of_some _ e
    refine SeqAt.compareEq_reads (da := .list []) (db := .list []) (Reads.list (k3 _ _ hD'') rfl rfl .nil) (Reads.list (Heap.get?_push_size _ rfl) rfl rfl .nil) rfl rfl ?_ ?_
    · have e1 : min (PyData.depth (.list [])) (PyData.depth (.list [])) ≤ 2 := by decide
      omega
    · refine kk _ _ fun b o e => k3 b o ((s''.2 b ?_).trans (kp b o e))
      exact Nat.ne_of_lt (Nat.lt_of_lt_of_le (Heap.lt_size e) hC)
/-- the start -/
theorem LawI.start (fm : Fm h₀ L h h m) (mr : m "rows" = some (.ref RA)) (ml : m "logs" = some (.ref LA)) (c1 : ∃ v, h.IsCell (L + 1) v) (c2 : ∃ v, h.IsCell (L + 2) v) (cd : Cd h) (lr : h.PlainList RA #[.ref y.r]) (ll : h.PlainList LA #[]) (Y : RowOk w h₀ h y)
    (b0 : 81 < L) (b1 : L + 2 < RA) (b2 : RA < LA) (yo : ∀ a ∈ y.own, L + 2 < a ∧ a < RA) (yr : ∀ a ∈ y.ro, L + 2 < a ∧ a < RA) (low : ∀ a ∈ base L RA LA, h₀.get? a = none) : LawI w h₀ h L RA LA [] [y] [] m := by
  have nb : ∀ a, L + 2 < a ∧ a < RA → a ∉ base L RA LA := fun a ⟨p, q⟩ => nb_nat a L RA LA b0 b1 b2 p q
  have one : ∀ x ∈ [y], x = y := fun x hx => List.mem_singleton.mp hx
  refine ⟨fm, mr, ml, c1, c2, cd, lr, ll, fun x hx => by rw [one x hx]; exact Y, fun e he => (nomatch he), fun i j x z hx hz n => ?_, fun x hx a ha => by rw [one x hx] at ha; exact nb a (yo a ha), fun x hx a ha => ?_, fun e he => (nomatch he), fun a ha => (nomatch ha), fun a ha => (nomatch ha), bn_nat L RA LA b0 b1 b2, low, Nat.le_refl 1, (by show 1 ≤ 3; decide)⟩
  · have e1 : i = 0 := by
      cases i with
      | zero => rfl
      | succ i => simp at hx
    have e2 : j = 0 := by
      cases j with
      | zero => rfl
      | succ j => simp at hz
    exact absurd (e1.trans e2.symm) n
  · rw [one x hx] at ha
    exact ⟨nb a (yr a ha), fun z hz => by rw [one z hz]; exact Y.sep a ha⟩
end
end
end Mine
namespace Mine
noncomputable section
section
variable {w : World} {A : Around} {E : Value → Shared → Prop} {h₀ h : Heap} {g : Array GenState} {dr : Drawn} {t : Nat} {os : OsState} {Q : Value → Shared → Prop}
theorem law_ok {sa : Addr} {vs : List Value} {ns : List Int} (G : Good0 w h₀) (kp : Keep h₀ h) (n81 : h₀.get? 81 = none) (hc : Cd h) (hs : h.IsList sa vs.toArray) (hi : IntsAre vs ns) (hz : vs.length < 1000) (hh : A.handled = none) (hfr : A.frames = some []) (hroom : A.depth + 9 < recursionLimit) (hu : A.units + 120 < cLine)
    (kk : ∀ h' t' g', (AllBare g → AllBare g') → Keep h₀ h' → Cd h' → Q (.bool true) ⟨h', g', dr, t', os⟩) :
    wpAny (MM w) A (call (.ref 203) [.ref sa]) Q E ⟨h, g, dr, t, os⟩ := by
  have big := G.size kp
  refine m_callC (binds := [("script", .ref sa)]) G kp (by omega) (fn203 w) (by kernel_rfl) (by kernel_rfl) (fun x hx => by rw [List.mem_singleton] at hx; subst hx; exact .inl (by kernel_rfl)) ?_
  intro h₁ t₁ fm cells
  have k₁ : Keep h h₁ := fm.out (Nat.le_refl _)
  have hd8 : (A.deeper (envL w h.objs.size)).depth + 8 < recursionLimit := by show A.depth + 1 + 8 < _; omega
  have hu3 : (A.deeper (envL w h.objs.size)).units + 110 < cLine := by show A.units + 3 + 110 < _; omega
  have hfr' : (A.deeper (envL w h.objs.size)).frames = some [envL w h.objs.size] := by show A.frames.map _ = _; rw [hfr]; rfl
  have c1 : h₁.IsCell (h.objs.size + 1) none := cells "log" (h.objs.size + 1) (by kernel_rfl)
  have c2 : h₁.IsCell (h.objs.size + 2) none := cells "table" (h.objs.size + 2) (by kernel_rfl)
  have low : ∀ a, h.objs.size ≤ a → h₀.get? a = none := fun a ha => low_size kp ha
  generalize hL : h.objs.size = L at fm cells hd8 hu3 hfr' c1 c2 low big ⊢
  generalize hA : A.deeper (envL w L) = A' at hd8 hu3 hfr' ⊢
  have hh' : A'.handled = none := by rw [← hA]; exact hh
  have big' : 203 < L := by rw [← hL]; exact G.size kp
  -- rows = [[AssignmentSet(), {}, {}, []]]
  refine wpAny_execs_cons (wpAny_Assign_Name (wpAny_List (args_cons (wpAny_List (args_cons (n_call0 G fm (g_class w) (by kernel_rfl) (init0_ok G fm.base hh' (by omega) fun h₂ t₂ p st₂ pc pa k₂ => ?_)) rfl)) rfl)))
  refine args_cons (wpAny_Dict_empty ?_) rfl
  have d₃ := Heap.DictOf.new (knd := IK w) h₂
  have k₃ : Keep h₂ (h₂.push { cls := .type "dict", data := .dict #[] }) := fun b o e => Heap.get?_push_of_some _ e
  have z₃ : (h₂.push { cls := .type "dict", data := .dict #[] }).objs.size = h₂.objs.size + 1 := Heap.size_push ..
  show wpAny _ _ _ _ _ ⟨h₂.push { cls := .type "dict", data := .dict #[] }, g, dr, _, os⟩
  generalize h₂.push { cls := .type "dict", data := .dict #[] } = h₃ at d₃ k₃ z₃ ⊢
  refine args_cons (wpAny_Dict_empty ?_) rfl
  have d₄ := Heap.DictOf.new (knd := IK w) h₃
  have k₄ : Keep h₃ (h₃.push { cls := .type "dict", data := .dict #[] }) := fun b o e => Heap.get?_push_of_some _ e
  have z₄ : (h₃.push { cls := .type "dict", data := .dict #[] }).objs.size = h₃.objs.size + 1 := Heap.size_push ..
  show wpAny _ _ _ _ _ ⟨h₃.push { cls := .type "dict", data := .dict #[] }, g, dr, _, os⟩
  generalize h₃.push { cls := .type "dict", data := .dict #[] } = h₄ at d₄ k₄ z₄ ⊢
  refine args_cons (wpAny_List (args_nil ⟨Nat.zero_le _, args_nil ⟨by rw [sizeLine_eq]; show 4 ≤ _; decide, args_nil ⟨by rw [sizeLine_eq]; show 1 ≤ _; decide, ?_⟩⟩⟩)) rfl
  dsimp only
  have k₅ : Keep h₄ (h₄.push { cls := .type "list", data := .seq ([] : List Value).toArray }) := fun b o e => Heap.get?_push_of_some _ e
  have z₅ : (h₄.push { cls := .type "list", data := .seq ([] : List Value).toArray }).objs.size = h₄.objs.size + 1 := Heap.size_push ..
  have p₅ : (h₄.push { cls := .type "list", data := .seq ([] : List Value).toArray }).PlainList h₄.objs.size ([] : List Value).toArray := ⟨_, Heap.get?_push_size _ rfl⟩
  generalize h₄.push { cls := .type "list", data := .seq ([] : List Value).toArray } = h₅ at k₅ z₅ p₅ ⊢
  have k₆ : Keep h₅ (h₅.push { cls := .type "list", data := .seq #[.ref p.x, .ref h₂.objs.size, .ref h₃.objs.size, .ref h₄.objs.size] }) := fun b o e => Heap.get?_push_of_some _ e
  have z₆ : (h₅.push { cls := .type "list", data := .seq #[.ref p.x, .ref h₂.objs.size, .ref h₃.objs.size, .ref h₄.objs.size] }).objs.size = h₅.objs.size + 1 := Heap.size_push ..
  have l₆ : (h₅.push { cls := .type "list", data := .seq #[.ref p.x, .ref h₂.objs.size, .ref h₃.objs.size, .ref h₄.objs.size] }).IsList h₅.objs.size #[.ref p.x, .ref h₂.objs.size, .ref h₃.objs.size, .ref h₄.objs.size] := ⟨_, Heap.get?_push_size _ rfl, rfl, _, rfl⟩
  show wpAny _ _ _ _ _ ⟨(h₅.push { cls := .type "list", data := .seq #[.ref p.x, .ref h₂.objs.size, .ref h₃.objs.size, .ref h₄.objs.size] }).push { cls := .type "list", data := .seq #[.ref h₅.objs.size] }, g, dr, _, os⟩
  generalize h₅.push { cls := .type "list", data := .seq #[.ref p.x, .ref h₂.objs.size, .ref h₃.objs.size, .ref h₄.objs.size] } = h₆ at k₆ z₆ l₆ ⊢
  have k₇ : Keep h₆ (h₆.push { cls := .type "list", data := .seq #[.ref h₅.objs.size] }) := fun b o e => Heap.get?_push_of_some _ e
  have z₇ : (h₆.push { cls := .type "list", data := .seq #[.ref h₅.objs.size] }).objs.size = h₆.objs.size + 1 := Heap.size_push ..
  have p₇ : (h₆.push { cls := .type "list", data := .seq #[.ref h₅.objs.size] }).PlainList h₆.objs.size #[.ref h₅.objs.size] := ⟨_, Heap.get?_push_size _ rfl⟩
  generalize h₆.push { cls := .type "list", data := .seq #[.ref h₅.objs.size] } = h₇ at k₇ z₇ p₇ ⊢
  have k₁₇ : Keep h₁ h₇ := k₂.trans (k₃.trans (k₄.trans (k₅.trans (k₆.trans k₇))))
  have fm₇ := (fm.keep k₁₇).here
  refine m_store fm₇ rfl rfl fun h₈ t₈ fm₈ => ?_
  have e₈ : ∀ b o, b ≠ L → h₇.get? b = some o → h₈.get? b = some o := fun b o n e => fm₈.ext b o n e
  -- logs = []
  refine wpAny_execs_cons (wpAny_Assign_Name (wpAny_List (args_nil ⟨Nat.zero_le _, ?_⟩)))
  have k₉ : Keep h₈ (h₈.push { cls := .type "list", data := .seq ([] : List Value).toArray }) := fun b o e => Heap.get?_push_of_some _ e
  have p₉ : (h₈.push { cls := .type "list", data := .seq ([] : List Value).toArray }).PlainList h₈.objs.size ([] : List Value).toArray := ⟨_, Heap.get?_push_size _ rfl⟩
  show wpAny _ _ _ _ _ ⟨h₈.push { cls := .type "list", data := .seq ([] : List Value).toArray }, g, dr, _, os⟩
  generalize h₈.push { cls := .type "list", data := .seq ([] : List Value).toArray } = h₉ at k₉ p₉ ⊢
  have fm₉ := (fm₈.here.keep k₉).here
  refine m_store fm₉ rfl rfl fun h₁₀ t₁₀ fm₁₀ => ?_
  have e₁₀ : ∀ b o, b ≠ L → h₇.get? b = some o → h₁₀.get? b = some o := fun b o n e => fm₁₀.ext b o n (k₉ b o (e₈ b o n e))
  -- where things lie
  have lt2 : L + 2 < h₂.objs.size := let ⟨o, ho, _⟩ := c2; Heap.lt_size (k₂ _ o ho)
  have lt1 : L + 2 < h₁.objs.size := let ⟨o, ho, _⟩ := c2; Heap.lt_size ho
  have pl : ∀ a ∈ p.addrs, L + 2 < a ∧ a < h₂.objs.size := fun a ha => ⟨Nat.lt_of_lt_of_le lt1 (pa a ha), st₂.lt a ha⟩
  have hLt : L < h₂.objs.size := by omega
  have RAL : h₆.objs.size < h₈.objs.size := by
    obtain ⟨_, ho⟩ := id p₇
    exact Heap.lt_size (e₈ _ _ (by omega) ho)
  have k₂₇ : Keep h₂ h₇ := k₃.trans (k₄.trans (k₅.trans (k₆.trans k₇)))
  have up : ∀ {hk : Heap} {a : Addr}, Keep hk h₇ → h₂.objs.size ≤ a ∨ a ∈ p.addrs → ∀ o, hk.get? a = some o → h₁₀.get? a = some o := fun {hk a} kq q o e => e₁₀ a o (by
    rcases q with q | q
    · exact Nat.ne_of_gt (Nat.lt_of_lt_of_le hLt q)
    · exact Nat.ne_of_gt (Nat.lt_trans (Nat.lt_add_of_pos_right (by decide)) (pl a q).1)) (kq a o e)
  have k07 : Keep h₀ h₇ := fm₇.base
  have sysq : ∀ {hk : Heap} {a : Addr}, Keep h₀ hk → hk.objs.size ≤ a → (a == sysModules) = false := fun kq q => G.sys kq q
  have k02 : Keep h₀ h₂ := fm.base.trans k₂
  have st₁₀ : St w h₀ h₁₀ p (fun _ => none) (fun _ => none) (fun _ => false) := by
    refine st₂.chg (l := [L]) (fun b o n e => e₁₀ b o (by simpa using n) (k₂₇ b o e)) (fun a ha => ?_) (fun a ha q => ?_) (fun d q => by rw [pc] at q; cases q)
    · rw [List.mem_singleton] at ha
      subst ha
      exact ns_notup (fm.ns.keeps k₂)
    · rw [List.mem_singleton] at q
      exact Nat.ne_of_gt (Nat.lt_trans (Nat.lt_add_of_pos_right (by decide)) (pl a ha).1) q
  generalize hy : (⟨h₅.objs.size, p, h₂.objs.size, h₃.objs.size, h₄.objs.size, [], [], [], [], fun _ => none, fun _ => none, fun _ => false⟩ : Row) = y
  have plN : ∀ a : Nat, h₂.objs.size ≤ a → a ∉ p.addrs := fun a q u => Nat.not_lt.mpr q (pl a u).2
  have i3 : L + 2 < h₃.objs.size := by omega
  have i4 : L + 2 < h₄.objs.size := by omega
  have i5 : L + 2 < h₅.objs.size := by omega
  have j2 : h₂.objs.size < h₆.objs.size := by omega
  have j3 : h₃.objs.size < h₆.objs.size := by omega
  have j4 : h₄.objs.size < h₆.objs.size := by omega
  have j5 : h₅.objs.size < h₆.objs.size := by omega
  have g3 : h₂.objs.size ≤ h₃.objs.size := by omega
  have g4 : h₂.objs.size ≤ h₄.objs.size := by omega
  have g5 : h₂.objs.size ≤ h₅.objs.size := by omega
  have g6 : h₂.objs.size ≤ h₆.objs.size := by omega
  have Y : RowOk w h₀ h₁₀ y := by
    subst hy
    refine mkRow st₁₀ pc ⟨DictOf_at d₃ (up (k₄.trans (k₅.trans (k₆.trans k₇))) (.inl (Nat.le_refl _))), fun x hx => (nomatch hx), fun _ => rfl, G.sys k02 (Nat.le_refl _)⟩
      ⟨DictOf_at d₄ (up (k₅.trans (k₆.trans k₇)) (.inl g3)), fun x hx => (nomatch hx), fun _ _ => rfl, G.sys k02 g3⟩
      ⟨(p₅.at (up (k₆.trans k₇) (.inl g4))).isList, .nil, by simp, fun k hk => (nomatch hk), fun k _ => rfl⟩ (p₅.at (up (k₆.trans k₇) (.inl g4))) (l₆.at (up k₇ (.inl g5))) (plN _ (Nat.le_refl _)) (plN _ g4) (plN _ g3) ?_ (plN _ g5) ?_ (low_size k02 (Nat.le_refl _)) (low_size k02 g4)
    · show h₃.objs.size ≠ h₂.objs.size
      omega
    · show h₅.objs.size ≠ h₄.objs.size
      omega
  have vA : ∃ v, h₁₀.IsCell (L + 1) v := by
    obtain ⟨o, ho, hd⟩ := c1
    exact ⟨_, o, e₁₀ _ o (Nat.succ_ne_self _) (k₁₇ _ o ho), hd⟩
  have vB : ∃ v, h₁₀.IsCell (L + 2) v := by
    obtain ⟨o, ho, hd⟩ := c2
    exact ⟨_, o, e₁₀ _ o (Nat.ne_of_gt (Nat.lt_add_of_pos_right (by decide))) (k₁₇ _ o ho), hd⟩
  have vC : Cd h₁₀ := by
    refine ((hc.keep k₁).keep k₁₇).chg (l := [L]) (fun b o n e => e₁₀ b o (by simpa using n) e) ?_ ?_
    · rw [List.mem_singleton]; exact Nat.ne_of_lt (Nat.lt_trans (by decide) big')
    · rw [List.mem_singleton]; exact Nat.ne_of_lt (Nat.lt_trans (by decide) big')
  have vD : h₁₀.PlainList h₆.objs.size #[.ref y.r] := by
    subst hy
    exact p₇.at (up (Keep.refl _) (.inl g6))
  have vE : h₁₀.PlainList h₈.objs.size #[] := by
    exact p₉.at fun o e => fm₁₀.ext _ o (Nat.ne_of_gt (Nat.lt_trans (by omega) RAL)) e
  have vF : ∀ a ∈ y.own, L + 2 < a ∧ a < h₆.objs.size := by
    subst hy
    intro a ha
    rcases List.mem_cons.mp ha with q | ha
    · rw [show a = h₂.objs.size from q]; exact ⟨lt2, j2⟩
    · rcases List.mem_cons.mp ha with q | ha
      · rw [show a = h₄.objs.size from q]; exact ⟨i4, j4⟩
      · exact ⟨(pl a ha).1, Nat.lt_trans (pl a ha).2 j2⟩
  have vG : ∀ a ∈ y.ro, L + 2 < a ∧ a < h₆.objs.size := by
    subst hy
    intro a ha
    rcases List.mem_cons.mp ha with q | ha
    · rw [show a = h₅.objs.size from q]; exact ⟨i5, j5⟩
    · rcases List.mem_cons.mp ha with q | ha
      · rw [show a = h₃.objs.size from q]; exact ⟨i3, j3⟩
      · have := mem_cvL.mp ha
        rw [show ({ r := h₅.objs.size, p := p, td := h₂.objs.size, bd := h₃.objs.size, fa := h₄.objs.size, T := [], B := [], vf := [], ns := [], tv := fun _ => none, bf := fun _ => none, nf := fun _ => false } : Row).p.cv = .none from pc] at this
        cases this
  have vH : ∀ a ∈ base L h₆.objs.size h₈.objs.size, h₀.get? a = none := by
    intro a ha
    simp only [base, List.mem_cons, List.not_mem_nil, or_false] at ha
    rcases ha with q | q | q | q | q | q
    · rw [q]; exact n81
    · rw [q]; exact low L (Nat.le_refl _)
    · rw [q]; exact low _ (Nat.le_succ _)
    · rw [q]; exact low _ (Nat.le_add_right _ _)
    · rw [q]; exact low _ (by omega)
    · rw [q]; exact low _ (Nat.le_of_lt (Nat.lt_trans (by omega) RAL))
  have vI : 81 < L := by omega
  have vJ : L + 2 < h₆.objs.size := by omega
  have V := LawI.start (w := w) (y := y) (RA := h₆.objs.size) (LA := h₈.objs.size) fm₁₀.here rfl rfl vA vB vC vD vE Y vI vJ RAL vF vG vH
  -- for number in script[:16]
  have hs₁₀ : h₁₀.IsList sa vs.toArray := hs.at fun o e => e₁₀ _ o (by rw [← hL]; exact Nat.ne_of_lt (Heap.lt_size e)) (k₁₇ _ o (k₁ _ o e))
  refine wpAny_execs_cons (wpAny_For (Subscript_ (n_loc V.fm (v := .ref sa) (wpAny_Slice (wpAny_of_eq (rfl : evalPart none _ = pure .none) ?_)) rfl)))
  show wpAny (MM w) A' (eval _ _) _ _ _
  refine wpAny_Constant_int (wpAny_of_eq (rfl : evalPart none _ = pure .none) ?_)
  refine n_slice (h := h₁₀) hs₁₀ .none (.int 16 _) (by rw [List.size_toArray]; exact hz) fun h₁₁ k₁₁ z₁₁ p₁₁ => ?_
  have iv := slice_ints_uptoW hi (y := 16) (by decide)
  generalize hvs : (slicePick vs.toArray none (some 16) none).toList = vs' at iv
  have evs : slicePick vs.toArray none (some 16) none = vs'.toArray := by rw [← hvs]
  rw [evs] at p₁₁
  have len16 : vs'.length ≤ 16 := by
    have := iv.sizeZ
    simp only [List.size_toArray, List.length_take] at this
    have e16 : (16 : Int).toNat = 16 := rfl
    omega
  refine wpAny_pyIter_list (s := ⟨h₁₁, g, dr, _, os⟩) p₁₁.isList ?_
  have k₁₂ : Keep h₁₁ (h₁₁.push { cls := .type "list_iterator", data := .fields #[.ref (h₁₀.objs.size + 1), .int 0 0] }) := fun b o e => Heap.get?_push_of_some _ e
  have it₁₂ : (h₁₁.push { cls := .type "list_iterator", data := .fields #[.ref (h₁₀.objs.size + 1), .int 0 0] }).IsListIter h₁₁.objs.size (h₁₀.objs.size + 1) 0 := ⟨_, Heap.get?_push_size _ rfl, rfl, rfl⟩
  show codeAny _ _ _ _ ⟨h₁₁.push { cls := .type "list_iterator", data := .fields #[.ref (h₁₀.objs.size + 1), .int 0 0] }, g, dr, _, os⟩
  generalize h₁₁.push { cls := .type "list_iterator", data := .fields #[.ref (h₁₀.objs.size + 1), .int 0 0] } = h₁₂ at k₁₂ it₁₂ ⊢
  have sN : h₁₀.get? (h₁₀.objs.size + 1) = none := low_size (Keep.refl _) (Nat.le_succ _)
  have iN : h₁₁.get? h₁₁.objs.size = none := low_size (Keep.refl _) (Nat.le_refl _)
  have V₁₁ := (V.keep k₁₁).addEx (a := h₁₀.objs.size + 1) (list_live p₁₁.isList) (fun q => live_ne (V.blive _ q) sN rfl) fun z hz q => live_ne ((V.row z hz).live _ q) sN rfl
  have V₁₂ := (V₁₁.keep k₁₂).addEx (a := h₁₁.objs.size) (let ⟨o, ho, _⟩ := it₁₂; ⟨o, ho⟩) (fun q => live_ne (V₁₁.blive _ q) iN rfl) fun z hz q => live_ne ((V₁₁.row z hz).live _ q) iN rfl
  refine script_loop (g₀ := g) (I := h₁₁.objs.size) (SA := h₁₀.objs.size + 1) (vs := vs') G hh' hd8 hu3 hfr' iv len16 (low_size V₁₁.fm.base (Nat.le_refl _)) (Nat.ne_of_lt z₁₁) ?_ vs'.length 0 h₁₂ _ g _ [y] [] (by omega) V₁₂ it₁₂ (p₁₁.isList.at fun o e => k₁₂ _ o e) (Nat.le_refl _) id
  intro h₁₃ t₁₃ g₁₃ m₁₃ rows logs b₁₃ V₁₃ hlg
  -- for row in rows
  refine wpAny_execs_cons (wpAny_For (n_loc V₁₃.fm (v := .ref h₆.objs.size) ?_ V₁₃.mr))
  refine wpAny_pyIter_list (s := ⟨h₁₃, g₁₃, dr, t₁₃, os⟩) V₁₃.lr.isList ?_
  have k₁₄ : Keep h₁₃ (h₁₃.push { cls := .type "list_iterator", data := .fields #[.ref h₆.objs.size, .int 0 0] }) := fun b o e => Heap.get?_push_of_some _ e
  have it₁₄ : (h₁₃.push { cls := .type "list_iterator", data := .fields #[.ref h₆.objs.size, .int 0 0] }).IsListIter h₁₃.objs.size h₆.objs.size 0 := ⟨_, Heap.get?_push_size _ rfl, rfl, rfl⟩
  show codeAny _ _ _ _ ⟨h₁₃.push { cls := .type "list_iterator", data := .fields #[.ref h₆.objs.size, .int 0 0] }, g₁₃, dr, _, os⟩
  generalize h₁₃.push { cls := .type "list_iterator", data := .fields #[.ref h₆.objs.size, .int 0 0] } = h₁₄ at k₁₄ it₁₄ ⊢
  have jN : h₁₃.get? h₁₃.objs.size = none := low_size (Keep.refl _) (Nat.le_refl _)
  have V₁₄ := (V₁₃.keep k₁₄).addEx (a := h₁₃.objs.size) (let ⟨o, ho, _⟩ := it₁₄; ⟨o, ho⟩) (fun q => live_ne (V₁₃.blive _ q) jN rfl) fun z hz q => live_ne ((V₁₃.row z hz).live _ q) jN rfl
  refine end_loop (g₀ := g) (I := h₁₃.objs.size) (N := rows.length) G hh' hd8 hu3 hfr' (low_size V₁₃.fm.base (Nat.le_refl _)) ?_ rows.length 0 h₁₄ _ g₁₃ _ rows (by omega) rfl V₁₄ it₁₄ b₁₃
  intro h₁₅ t₁₅ g₁₅ m₁₅ rows₁₅ b₁₅ V₁₅
  refine ret_ok hh' hu3 V₁₅ (by omega) fun h₁₆ t₁₆ k₁₆ => ?_
  exact kk h₁₆ _ g₁₅ b₁₅ (V₁₅.fm.base.trans k₁₆) (V₁₅.cd.keep k₁₆)
end
end
end Mine
namespace Mine
noncomputable section
theorem k81 (w : World) : (KK w).lookup 81 = none := by kernel_rfl
theorem hd85 (w : World) : codeHdIn (KK w) 85 81 = true := by kernel_rfl
theorem n_law (w : World) : nsIn (KK w) mainGlobals "law" = some (some (.ref 203)) := by kernel_rfl
theorem n_bi (w : World) : nsIn (KK w) mainGlobals "__builtins__" = some (some (.ref 4)) := by kernel_rfl
/-- the law's claim, once the text's top stands -/
theorem fin_ok {w : World} {s₀ s₁ : Shared} {mg mb : Str → Option Value} {args : List WData} {vals : List Value} {as : List Addr} {fa : Addr} (X : (KK w).In s₁.heap) (t81 : s₁.heap.get? 81 = some (tabObj #[])) (hgN : s₁.heap.Ns mainGlobals mg) (hbN : s₁.heap.Ns builtinsNs mb) (hlim : s₁.heap.NoLimit)
    (hbb : ∀ x : Str, x ≠ "__name__" → mb x = bootBuiltins x) (hbm : ∃ bm ob, mg "__builtins__" = some (.ref bm) ∧ bm ≠ builtinsNs ∧ s₁.heap.get? bm = some ob ∧ ob.cls = .type "module" ∧ ob.dict = some builtinsNs ∧ ob.data = .plain)
    (hmg : mg "law" = some (.ref fa)) (hgs : s₁.gens = #[]) (hpre : PySem.Challenge.rw_nc0034_01.row.claim.pre args = true) (hlay : WData.layableAll args = true)
    (hrd : ReadsAllW PySem.Challenge.rw_nc0034_01.row.records (classAt s₀.heap) s₁.heap vals args as) (hwl : WellAll w.params s₁.heap vals args) (hlo : ∀ (a : Addr), a ∈ as → (a == sysModules) = false) :
    wpAny (MM w) callerA (call (.ref fa) vals) (fun v s' => GoodWG PySem.Challenge.rw_nc0034_01.row.claim (classAt s₀.heap) (ExcName.means s₀.heap) args s₁ (Except.ok (Flow.ret v)) s')
      (fun e s' => GoodWG PySem.Challenge.rw_nc0034_01.row.claim (classAt s₀.heap) (ExcName.means s₀.heap) args s₁ (Except.error e) s') s₁ := by
  have e203 : fa = 203 := by
    have := mg_of X hgN (n_law w)
    rw [hmg] at this
    injection this with this
    injection this
  subst e203
  obtain ⟨bm, ob, hb1, _, hb2, hb3, hb4, hb5⟩ := hbm
  have e4 : bm = 4 := by
    have := mg_of X hgN (n_bi w)
    rw [hb1] at this
    injection this with this
    injection this
  subst e4
  have up : ∀ b o, b ≠ 81 → s₁.heap.get? b = some o → (hideAll s₁.heap [81]).get? b = some o := fun b o n e => hideAll_get [81] e (by simpa using n)
  have G : Good0 w (hideAll s₁.heap [81]) := by
    refine ⟨fun a o e => up a o ?_ (X a o e), ⟨mb, hbN.at' fun o e => up _ o (by decide) e, hbb⟩, ?_, ⟨ob, up 4 ob (by decide) hb2, hb3, hb4, hb5⟩⟩
    · rintro rfl
      rw [k81] at e; cases e
    · obtain ⟨mc, hn, hm⟩ := hlim
      exact ⟨mc, hn.at' fun o e => up _ o (by decide) e, hm⟩
  have kp : Keep (hideAll s₁.heap [81]) s₁.heap := fun b o e => of_hideAll [81] e
  have n81 : (hideAll s₁.heap [81]).get? 81 = none := hideAll_none [81] (by simp)
  have cd : Cd s₁.heap := by
    obtain ⟨o, vs, file, tf, flags, tg, inF, text, tt, h1, h2, h3, h4, h5, h6, h7, h8, h9, h10⟩ := codeHd_of_K X (hd85 w)
    exact ⟨#[], ⟨o, vs, file, tf, flags, tg, inF, text, tt, tabObj #[], h1, h3, h5, h6, h7, h8, h9, t81, rfl, trivial, h10⟩, ⟨o, vs, h1, h2, h3, h4⟩, t81⟩
  have tab : s₁.heap.TableAt 85 81 #[] := by
    obtain ⟨o, vs, file, tf, flags, tg, inF, text, tt, h1, h2, h3, h4, _⟩ := codeHd_of_K X (hd85 w)
    exact ⟨⟨o, vs, h1, h2, h3, h4⟩, t81⟩
  wrow_args hpre hlay hrd hwl hlo
  rename_i ns _ _ _ _ _ _ sa vs _ hL _ _ _ hI _ hcond _
  have hlen : vs.length < 1000 := by
    have e1 := hI.sizeZ
    simp only [List.size_toArray] at e1
    omega
  obtain ⟨h, g, dr, t, os⟩ := s₁
  refine law_ok (h₀ := hideAll h [81]) (A := callerA) G kp n81 cd hL hI hlen rfl rfl (by decide) (by decide) fun h' t' g' bare kp' cd' => ?_
  refine ⟨.inl ⟨.bool true, .bool true, [], rfl, fun _ => rfl, .bool true, ?_, fun _ => ⟨List.nodup_nil, fun a ha => nomatch ha⟩⟩, ⟨fun b o e => ?_, fun b o e => ?_⟩, rfl, bare (AllBare.of_eq hgs)⟩
  · kernel_rfl
  · by_cases q : b = 81
    · subst q
      obtain ⟨ps, _, _, h81⟩ := cd'
      have e' : o = tabObj #[] := Option.some.inj (e.symm.trans t81)
      subst e'
      refine .inr (.inl ⟨tab.isCodeTable, rfl, #[], ps, rfl, ?_⟩)
      rw [h81]
      simp
    · exact .inl (kp' b o (up b o q e))
  · by_cases q : b = 81
    · subst q
      obtain ⟨ps, _, _, h81⟩ := cd'
      exact ⟨_, h81⟩
    · exact ⟨o, kp' b o (up b o q e)⟩
end
end Mine
set_option maxRecDepth 100000 in
set_option maxHeartbeats 8000000 in
theorem PySem.Challenge.cw_nc0034_01_holds : PySem.Challenge.rw_nc0034_01.Holds := by
  refine Mine.hd ?_
  intro w s₀ s₁ mg mb G Y fa o pm cd doc dV kV ho hd hcd hD hmg hg args vals as hpre hlay hrd hwl hlo
  exact Mine.fin_ok Y.1 (Y.2 81 (by simp)) G.T.g G.T.b G.T.nolimit G.T.builtins G.T.bmain hmg hg hpre hlay hrd hwl hlo
