import PyProof.Rows.All
import Wide.All
import OpenK.AllK
import Wide.FinOn
import PySem.Challenge.RW_pd0012_01
section
open PySem PySem.W PyProof.Rows
set_option Elab.async false
set_option maxRecDepth 100000
set_option maxHeartbeats 0
namespace Mine
theorem idE : PySem.W.namesOk = PySem.W.namesOk := rfl
end Mine
name_quick tw8075568018651887793 for PySem.W.namesOk by Mine.idE
name_quick tw14979626087600564940 for PySem.W.namesOk by Mine.idE
name_quick tw1309678018055914465 for PySem.W.namesOk by Mine.idE
name_quick tw347637069881736656 for PySem.W.namesOk by Mine.idE
name_quick tw1651231452613355621 for PySem.W.namesOk by Mine.idE
name_quick tw15890479717591214170 for PySem.W.namesOk by Mine.idE
name_quick tw6733733256287894996 for PySem.W.namesOk by Mine.idE
name_quick tw16499280990286240812 for PySem.W.namesOk by Mine.idE
name_quick tw8542242679196749389 for PySem.W.namesOk by Mine.idE
name_quick tw14805350148827880423 for PySem.W.namesOk by Mine.idE
name_quick tw16510406782170844458 for PySem.W.namesOk by Mine.idE
name_quick tw16804044748790271530 for PySem.W.namesOk by Mine.idE
name_quick tw7433093208181500128 for PySem.W.namesOk by Mine.idE
name_quick tw3094477031063562474 for PySem.W.namesOk by Mine.idE
name_quick tw2905824091091238844 for PySem.W.namesOk by Mine.idE
name_quick tw15319007112934793488 for PySem.W.namesOk by Mine.idE
name_quick tw13180171748994924942 for PySem.W.namesOk by Mine.idE
name_quick tw6648295256997805279 for PySem.W.namesOk by Mine.idE
name_quick tw16643706677886111943 for PySem.W.namesOk by Mine.idE
name_quick tw5396446701170858492 for PySem.W.namesOk by Mine.idE
name_quick tw3560238982266916124 for PySem.W.namesOk by Mine.idE
name_quick tw9136488742655976645 for PySem.W.namesOk by Mine.idE
name_quick tw14168537005229113720 for PySem.W.namesOk by Mine.idE
name_quick tw16349804527192203551 for PySem.W.namesOk by Mine.idE
name_quick tw3105397867545767578 for PySem.W.namesOk by Mine.idE
name_quick tw5770868932273138760 for PySem.W.namesOk by Mine.idE
name_quick tw1258717718454355964 for PySem.W.namesOk by Mine.idE
name_quick tw17279654841073493023 for PySem.W.namesOk by Mine.idE
name_quick tw5111356299099525756 for PySem.W.namesOk by Mine.idE
name_quick tw15490439104401381959 for PySem.W.namesOk by Mine.idE
name_quick tw4636218855388986860 for PySem.W.namesOk by Mine.idE
name_quick tw4444965560193506482 for PySem.W.namesOk by Mine.idE
name_quick tw387338674003428930 for PySem.W.namesOk by Mine.idE
name_quick tw6792406925840432001 for PySem.W.namesOk by Mine.idE
name_quick tw17672482021469178181 for PySem.W.namesOk by Mine.idE
name_quick tw5706481520468235054 for PySem.W.namesOk by Mine.idE
name_quick tw14376985748213822385 for PySem.W.namesOk by Mine.idE
name_quick tw15323854079317868165 for PySem.W.namesOk by Mine.idE
name_quick tw4775785305629353868 for PySem.W.namesOk by Mine.idE
name_quick tw3976722010076183465 for PySem.W.namesOk by Mine.idE
name_quick tw17069979004554194336 for PySem.W.namesOk by Mine.idE
name_quick tw9407582987413476825 for PySem.W.namesOk by Mine.idE
name_quick tw17730428716208468724 for PySem.W.namesOk by Mine.idE
name_quick tw9315938663221665524 for PySem.W.namesOk by Mine.idE
name_quick tw1617757218408452269 for PySem.W.namesOk by Mine.idE
name_quick tw1537898542681612871 for PySem.W.namesOk by Mine.idE
name_quick tw16145008321745377990 for PySem.W.namesOk by Mine.idE
name_quick tw5591276700874282246 for PySem.W.namesOk by Mine.idE
name_quick tw6908892306507642482 for PySem.W.namesOk by Mine.idE
name_quick tw4933834842325187142 for PySem.W.namesOk by Mine.idE
name_quick tw5357591511691535388 for PySem.W.namesOk by Mine.idE
name_quick tw2408619945344806742 for PySem.W.namesOk by Mine.idE
name_quick tw17476080006546285661 for PySem.W.namesOk by Mine.idE
name_quick tw6122645084068987007 for PySem.W.namesOk by Mine.idE
name_quick tw12290603225136948437 for PySem.W.namesOk by Mine.idE
name_quick tw16979880578912567463 for PySem.W.namesOk by Mine.idE
name_quick tw9763268239775435451 for PySem.W.namesOk by Mine.idE
name_quick tw14400365274747737836 for PySem.W.namesOk by Mine.idE
name_quick tw4797165386629745026 for PySem.W.namesOk by Mine.idE
name_quick tw11333186260410459676 for PySem.W.namesOk by Mine.idE
name_quick tw2660918139993853925 for PySem.W.namesOk by Mine.idE
name_quick tw16966814322356759819 for PySem.W.namesOk by Mine.idE
name_quick tw11130039905162102590 for PySem.W.namesOk by Mine.idE
name_quick tw219737044198020058 for PySem.W.namesOk by Mine.idE
name_quick tw11277716924127702174 for PySem.W.namesOk by Mine.idE
name_quick tw11263141906512457761 for PySem.W.namesOk by Mine.idE
name_quick tw4679858250743294509 for PySem.W.namesOk by Mine.idE
name_quick tw18132841703628828796 for PySem.W.namesOk by Mine.idE
name_quick tw16014048196230000526 for PySem.W.namesOk by Mine.idE
name_quick tw12237943961548833269 for PySem.W.namesOk by Mine.idE
name_quick tw3619232141914619222 for PySem.W.namesOk by Mine.idE
name_quick tw16817318245366136608 for PySem.W.namesOk by Mine.idE
name_quick tw10942035263794033107 for PySem.W.namesOk by Mine.idE
name_quick tw16241802466949684156 for PySem.W.namesOk by Mine.idE
name_quick tw11378322030455005005 for PySem.W.namesOk by Mine.idE
name_quick tw4292500188555128830 for PySem.W.namesOk by Mine.idE
name_quick tw12635297910168745909 for PySem.W.namesOk by Mine.idE
name_quick tw11186114360453789277 for PySem.W.namesOk by Mine.idE
name_quick tw2354135333415324597 for PySem.W.namesOk by Mine.idE
name_quick tw6695012665549500446 for PySem.W.namesOk by Mine.idE
name_quick tw9862997608875712007 for PySem.W.namesOk by Mine.idE
name_quick tw8703263022893421829 for PySem.W.namesOk by Mine.idE
name_quick tw10205541121877940668 for PySem.W.namesOk by Mine.idE
name_quick tw2039238271031011813 for PySem.W.namesOk by Mine.idE
name_quick tw9501820088010722379 for PySem.W.namesOk by Mine.idE
name_quick tw16999406412319421078 for PySem.W.namesOk by Mine.idE
name_quick tw662354867322794072 for PySem.W.namesOk by Mine.idE
name_quick tw17386159190761668373 for PySem.W.namesOk by Mine.idE
name_quick tw6679490504615227074 for PySem.W.namesOk by Mine.idE
name_quick tw15663404670287596823 for PySem.W.namesOk by Mine.idE
name_quick tw14821650378409806113 for PySem.W.namesOk by Mine.idE
name_quick tw1291980286583624508 for PySem.W.namesOk by Mine.idE
name_quick tw900395245841561262 for PySem.W.namesOk by Mine.idE
name_quick tw6380047634161181297 for PySem.W.namesOk by Mine.idE
name_quick tw1402947280878808549 for PySem.W.namesOk by Mine.idE
name_quick tw4527066259768149269 for PySem.W.namesOk by Mine.idE
name_quick tw4407734736301137906 for PySem.W.namesOk by Mine.idE
name_quick tw16360918003126229584 for PySem.W.namesOk by Mine.idE
name_quick tw13254397897704925713 for PySem.W.namesOk by Mine.idE
name_quick tw8860024209350480642 for PySem.W.namesOk by Mine.idE
name_quick tw12813236842856870187 for PySem.W.namesOk by Mine.idE
name_quick tw6711915476519705758 for PySem.W.namesOk by Mine.idE
name_quick tw12268644228514654432 for PySem.W.namesOk by Mine.idE
name_quick tw16846860572762119324 for PySem.W.namesOk by Mine.idE
name_quick tw8098380416015320538 for PySem.W.namesOk by Mine.idE
name_quick tw17964007177503468958 for PySem.W.namesOk by Mine.idE
name_quick tw4549333791460862111 for PySem.W.namesOk by Mine.idE
name_quick tw11256389202845128640 for PySem.W.namesOk by Mine.idE
name_quick tw10227693086864044499 for PySem.W.namesOk by Mine.idE
name_quick tw4071324889030633612 for PySem.W.namesOk by Mine.idE
name_quick tw3152983702415266003 for PySem.W.namesOk by Mine.idE
name_quick tw14714103240675001986 for PySem.W.namesOk by Mine.idE
name_quick tw13335737130258781183 for PySem.W.namesOk by Mine.idE
name_quick tw11625766737575182897 for PySem.W.namesOk by Mine.idE
name_quick tw16414604833108395602 for PySem.W.namesOk by Mine.idE
name_quick tw3362959441861295915 for PySem.W.namesOk by Mine.idE
name_quick tw2670528217467546775 for PySem.W.namesOk by Mine.idE
name_quick tw43969757491396457 for PySem.W.namesOk by Mine.idE
name_quick tw15980859228951719591 for PySem.W.namesOk by Mine.idE
name_quick tw2627984346626558326 for PySem.W.namesOk by Mine.idE
name_quick tw9759809726879904816 for PySem.W.namesOk by Mine.idE
name_quick tw13336175834630783545 for PySem.W.namesOk by Mine.idE
name_quick tw13317431791736044220 for PySem.W.namesOk by Mine.idE
name_quick tw3577408171920636059 for PySem.W.namesOk by Mine.idE
name_quick tw7721631327575515661 for PySem.W.namesOk by Mine.idE
name_quick tw13559156169165276386 for PySem.W.namesOk by Mine.idE
name_quick tw6004533443673955352 for PySem.W.namesOk by Mine.idE
name_quick tw282004115355043989 for PySem.W.namesOk by Mine.idE
name_quick tw682011567655089306 for PySem.W.namesOk by Mine.idE
name_quick tw1355338860687761863 for PySem.W.namesOk by Mine.idE
name_quick tw6019396324639902685 for PySem.W.namesOk by Mine.idE
name_quick tw5349121933718820234 for PySem.W.namesOk by Mine.idE
name_quick tw4075660801711882420 for PySem.W.namesOk by Mine.idE
name_quick tw2283851925072248500 for PySem.W.namesOk by Mine.idE
name_quick tw5268983451555188008 for PySem.W.namesOk by Mine.idE
name_quick tw3766158894648301139 for PySem.W.namesOk by Mine.idE
name_quick tw16643379632663270332 for PySem.W.namesOk by Mine.idE
name_quick tw1702518465993881591 for PySem.W.namesOk by Mine.idE
name_quick tw12233582284571471492 for PySem.W.namesOk by Mine.idE
name_quick tw3698559305507148144 for PySem.W.namesOk by Mine.idE
name_quick tw5529568453561195837 for PySem.W.namesOk by Mine.idE
name_quick tw14884601019740666482 for PySem.W.namesOk by Mine.idE
name_quick tw18101931140130867144 for PySem.W.namesOk by Mine.idE
name_quick tw10948738476641704880 for PySem.W.namesOk by Mine.idE
name_quick tw11462045893675790159 for PySem.W.namesOk by Mine.idE
name_quick tw7275051467321613617 for PySem.W.namesOk by Mine.idE
name_quick tw8206430501311747189 for PySem.W.namesOk by Mine.idE
name_quick tw16741492637210864865 for PySem.W.namesOk by Mine.idE
name_quick tw12945451867199242903 for PySem.W.namesOk by Mine.idE
name_quick tw1414301608579184545 for PySem.W.namesOk by Mine.idE
name_quick tw17100903815162463580 for PySem.W.namesOk by Mine.idE
name_quick tw17532718790514356516 for PySem.W.namesOk by Mine.idE
name_quick tw6245536207120538393 for PySem.W.namesOk by Mine.idE
name_quick tw951843321253372498 for PySem.W.namesOk by Mine.idE
name_quick tw16916688483869632129 for PySem.W.namesOk by Mine.idE
name_quick tw5076957145309523181 for PySem.W.namesOk by Mine.idE
name_quick tw15809354239759208672 for PySem.W.namesOk by Mine.idE
name_quick tw17000155066101142889 for PySem.W.namesOk by Mine.idE
namespace Mine
open_top hd for PySem.Challenge.rw_pd0012_01
end Mine
end
set_option Elab.async false
set_option genInjectivity false
set_option genSizeOf false
section
open PySem PySem.W PySem.Calls PySem.Spec PyProof.Rows
set_option maxRecDepth 100000
namespace Mine

theorem gopq {G : Prop} (h : ∀ G' : Prop, (G → G') → G') : G := h G id
noncomputable abbrev Vs := List (Option Value)
noncomputable abbrev Nw := List (Addr × Obj)
noncomputable abbrev Pin := Addr → Obj → Prop
noncomputable abbrev KK (w : World) : Frag := hd.heap_39 w.params
noncomputable abbrev PR : Program := PySem.Challenge.rw_pd0012_01.row.prog
noncomputable abbrev MM (w : World) : Model := model PR w

noncomputable def Tab (h : Heap) : Prop := ∃ ps, h.IsCode 57 53 ps ∧ h.TableAt 57 53 ps

theorem lookup_mem {a : Addr} {o : Obj} : ∀ {K : Frag}, K.lookup a = some o → (a, o) ∈ K
  | [], e => by cases e
  | (b, o') :: r, e => by
    rw [List.lookup_cons] at e
    by_cases h : (a == b) = true
    · rw [h] at e; cases e; rw [beq_iff_eq.mp h]; exact .head _
    · rw [Bool.not_eq_true] at h; rw [h] at e; exact .tail _ (lookup_mem e)

theorem kk_all (w : World) : ((KK w).all fun p => Nat.blt p.1 261 && !(Nat.beq p.1 53)) = true := by kernel_rfl
theorem kk_key {w : World} {a : Addr} {o : Obj} (e : (KK w).lookup a = some o) : a < 261 ∧ a ≠ 53 := by
  have h := List.all_eq_true.mp (kk_all w) _ (lookup_mem e)
  rw [Bool.and_eq_true] at h
  refine ⟨Nat.le_of_ble_eq_true h.1, ?_⟩
  rintro rfl
  have := h.2
  cases this

/-- the table of a code has at most grown -/
noncomputable def T53 (h h' : Heap) : Prop := ∀ o, h.get? 53 = some o → ∃ vs more, o.data = .fields vs ∧ h'.get? 53 = some { o with data := .fields (vs ++ more) }
theorem T53.step {h h' h'' : Heap} (T : T53 h h') (hk : ∀ o, h'.get? 53 = some o → h''.get? 53 = some o) : T53 h h'' := fun o e => by
  obtain ⟨vs, more, e1, e2⟩ := T o e
  exact ⟨vs, more, e1, hk _ e2⟩
theorem T53.trans {h h' h'' : Heap} (T : T53 h h') (T' : T53 h' h'') : T53 h h'' := fun o e => by
  obtain ⟨vs, more, e1, e2⟩ := T o e
  obtain ⟨vs', more', e1', e2'⟩ := T' _ e2
  have : vs' = vs ++ more := by injection e1'.symm
  subst this
  exact ⟨vs, more ++ more', e1, by rw [e2', Array.append_assoc]⟩
theorem T53.of_tab {h h' : Heap} (t : Tab h) (hk : ∀ o, h.get? 53 = some o → h'.get? 53 = some o) : T53 h h' := fun o e => by
  obtain ⟨ps, _, _, t2⟩ := t
  rw [t2] at e
  cases e
  exact ⟨ps, #[], rfl, by rw [hk _ t2]; simp⟩

structure Gr (w : World) (h : Heap) : Prop where
  K : (KK w).In h
  g : ∃ mg, h.Ns mainGlobals mg
  b : ∃ mb, h.Ns builtinsNs mb ∧ ∀ x : Str, x ≠ "__name__" → mb x = bootBuiltins x
  nl : h.NoLimit
  nd : ∃ mc, h.Ns cStatics mc ∧ mc "sys.int_max_str_digits" = none
  tab : Tab h
  bi : ∃ ob, h.get? 4 = some ob ∧ ob.cls = .type "module" ∧ ob.dict = some builtinsNs ∧ ob.data = .plain

theorem Gr.ext {w : World} {h h' : Heap} (G : Gr w h) (hk : ∀ b o, b < 261 → h.get? b = some o → h'.get? b = some o) : Gr w h' where
  K := fun a o e => hk a o (kk_key e).1 (G.K a o e)
  g := let ⟨mg, hn⟩ := G.g; ⟨mg, hn.at' fun o e => hk _ o (by decide) e⟩
  b := let ⟨mb, hn, hb⟩ := G.b; ⟨mb, hn.at' fun o e => hk _ o (by decide) e, hb⟩
  nl := let ⟨mc, hn, hb⟩ := G.nl; ⟨mc, hn.at' fun o e => hk _ o (by decide) e, hb⟩
  nd := let ⟨mc, hn, hb⟩ := G.nd; ⟨mc, hn.at' fun o e => hk _ o (by decide) e, hb⟩
  bi := let ⟨ob, h1, h2⟩ := G.bi; ⟨ob, hk _ _ (by decide) h1, h2⟩
  tab := by
    obtain ⟨ps, ⟨o, vs, file, tf, flags, tg, inF, text, tt, op, a, r1, r2, r3, r4, r5, r6, b, r⟩, ⟨⟨o', vs', a', r'⟩, t⟩⟩ := G.tab
    exact ⟨ps, ⟨o, vs, file, tf, flags, tg, inF, text, tt, op, hk _ _ (by decide) a, r1, r2, r3, r4, r5, r6, hk _ _ (by decide) b, r⟩, ⟨o', vs', hk _ _ (by decide) a', r'⟩, hk _ _ (by decide) t⟩

theorem kk260 (w : World) : ((KK w).lookup 260).isSome = true := by kernel_rfl
theorem Gr.size {w : World} {h : Heap} (G : Gr w h) : 261 ≤ h.objs.size := by
  obtain ⟨o, e⟩ := Option.isSome_iff_exists.mp (kk260 w)
  exact Heap.lt_size (G.K _ _ e)

noncomputable def look (ks : List Str) (vs : Vs) (x : Str) : Option Value := ((ks.zip vs).lookup x).join

theorem look_get : ∀ {ks : List Str} {vs : Vs} {i : Nat} {x : Str} {ov : Option Value}, ks.Nodup → ks[i]? = some x → vs[i]? = some ov → look ks vs x = ov
  | [], _, _, _, _, _, h, _ => by simp at h
  | _ :: _, [], _, _, _, _, _, h => by simp at h
  | k :: ks, v :: vs, 0, x, ov, _, hk, hv => by
    simp at hk hv
    subst hk hv
    simp [look]
  | k :: ks, v :: vs, i + 1, x, ov, nd, hk, hv => by
    simp at hk hv
    have hne : (x == k) = false := by
      rw [beq_eq_false_iff_ne]
      rintro rfl
      exact (List.nodup_cons.mp nd).1 (List.mem_of_getElem? hk)
    have := look_get (List.nodup_cons.mp nd).2 hk hv
    simp only [look, List.zip_cons_cons, List.lookup_cons, hne]
    exact this

theorem look_none : ∀ {ks : List Str} {vs : Vs} {x : Str}, x ∉ ks → look ks vs x = none
  | [], _, _, _ => rfl
  | _ :: _, [], _, _ => rfl
  | k :: ks, v :: vs, x, h => by
    have hne : (x == k) = false := by
      rw [beq_eq_false_iff_ne]; rintro rfl; exact h (.head _)
    have := look_none (ks := ks) (vs := vs) (x := x) fun m => h (.tail _ m)
    simp only [look, List.zip_cons_cons, List.lookup_cons, hne]
    exact this

theorem look_set {ks : List Str} {vs : Vs} {i : Nat} {x : Str} {v : Value} (nd : ks.Nodup) (hk : ks[i]? = some x) (hl : vs.length = ks.length) :
    (fun y => if y = x then some v else look ks vs y) = look ks (vs.set i (some v)) := by
  have hi : i < vs.length := by rw [hl]; exact (List.getElem?_eq_some_iff.mp hk).1
  funext y
  by_cases hy : y = x
  · subst hy
    rw [if_pos rfl]
    exact (look_get nd hk (by simp [hi])).symm
  · rw [if_neg hy]
    by_cases hm : y ∈ ks
    · obtain ⟨j, hj⟩ := List.getElem?_of_mem hm
      have hjl : j < vs.length := by rw [hl]; exact (List.getElem?_eq_some_iff.mp hj).1
      have hij : i ≠ j := by rintro rfl; rw [hk] at hj; exact hy (Option.some.inj hj).symm
      rw [look_get nd hj (List.getElem?_eq_getElem hjl), look_get nd hj (by rw [List.getElem?_set_ne hij]; exact List.getElem?_eq_getElem hjl)]
    · rw [look_none hm, look_none hm]

structure Rm (n : Nat) (A : Around) : Prop where
  hh : A.handled = none
  hd : A.depth + n ≤ 800
  hu : A.units + 10 * n ≤ 8000

theorem Rm.deeper {n : Nat} {A : Around} {env : Env} (R : Rm (n + 1) A) : Rm n (A.deeper env) :=
  ⟨R.hh, (by have := R.hd; show A.depth + 1 + n ≤ 800; omega), (by have := R.hu; show A.units + 3 + 10 * n ≤ 8000; omega)⟩
theorem Rm.le {n m : Nat} {A : Around} (R : Rm m A) (h : n ≤ m) : Rm n A := ⟨R.hh, by have := R.hd; omega, by have := R.hu; omega⟩

noncomputable def GlobIs (w : World) (x : Str) (v : Value) : Prop :=
  nsIn (KK w) mainGlobals x = some (some v) ∨ (nsIn (KK w) mainGlobals x = some none ∧ bootBuiltins x = some v ∧ x ≠ "__name__")

structure Cx where
  w : World
  A : Around
  env : Env
  ks : List Str
  gs : List (Str × Value)
  ro : Nw
  os : OsState × Heap
  lev : Nat
  rm : Rm lev A
  hk : env.scope.kind = .function
  nd : ks.Nodup
  loc : ∀ x ∈ ks, env.kindOf x = some .local ∧ (x == ("__debug__" : Str)) = false
  glo : ∀ p ∈ gs, env.kindOf p.1 = some .globalImplicit ∧ (p.1 == ("__debug__" : Str)) = false ∧ GlobIs w p.1 p.2
  hg : env.globals = mainGlobals
  hb : env.builtins = builtinsNs
  low : 261 ≤ env.locals

theorem Cx.hh (c : Cx) : c.A.handled = none := c.rm.hh

structure St (c : Cx) (pin : Pin) (vs : Vs) (nw : Nw) (s : Shared) : Prop where
  gr : Gr c.w s.heap
  ns : s.heap.Ns c.env.locals (look c.ks vs)
  len : vs.length = c.ks.length
  pinned : ∀ b o, pin b o → s.heap.get? b = some o
  pL : ∀ o, ¬ pin c.env.locals o
  p53 : ∀ o, ¬ pin 53 o
  ro : ∀ p ∈ c.ro, pin p.1 p.2
  own : ∀ p ∈ nw, s.heap.get? p.1 = some p.2
  nwA : ∀ p ∈ nw, c.env.locals < p.1 ∧ ∀ o, ¬ pin p.1 o
  ord : (nw.map (·.1)).Pairwise (· > ·)
  gens : AllBare s.gens
  os : s.os = c.os.1
  tk : 1 ≤ s.toks
  b53 : T53 c.os.2 s.heap

section
variable {c : Cx} {pin : Pin} {vs : Vs} {nw : Nw} {s : Shared}

theorem St.room (_ : St c pin vs nw s) : c.A.depth < recursionLimit := by have := c.rm.hd; show c.A.depth < 1000; omega
theorem St.units (_ : St c pin vs nw s) : c.A.units < cLine := by have := c.rm.hu; show c.A.units < 9900; omega

/-- everything kept: the state stands -/
theorem St.ext (S : St c pin vs nw s) {h' : Heap} {tk : Nat} (hk : ∀ b o, s.heap.get? b = some o → h'.get? b = some o) (ht : 1 ≤ tk) : St c pin vs nw { s with heap := h', toks := tk } where
  gr := S.gr.ext fun b o _ e => hk b o e
  ns := S.ns.keeps hk
  len := S.len
  pinned := fun b o h => hk b o (S.pinned b o h)
  pL := S.pL
  p53 := S.p53
  ro := S.ro
  own := fun p hp => hk _ _ (S.own p hp)
  nwA := S.nwA
  ord := S.ord
  gens := S.gens
  os := S.os
  tk := ht
  b53 := S.b53.step fun o e => hk _ o e
theorem St.toks (S : St c pin vs nw s) {tk : Nat} (ht : 1 ≤ tk) : St c pin vs nw { s with toks := tk } := S.ext (h' := s.heap) (fun _ _ e => e) ht

theorem St.alloc (S : St c pin vs nw s) (o : Obj) {tk : Nat} (hf : o.isFreed = false) (ht : 1 ≤ tk) : St c pin vs ((s.heap.objs.size, o) :: nw) { s with heap := s.heap.push o, toks := tk } := by
  have E := S.ext (h' := s.heap.push o) (tk := tk) (fun b o' e => Heap.get?_push_of_some o e) ht
  refine { E with own := ?_, nwA := ?_, ord := ?_ }
  · intro p hp
    rcases List.mem_cons.mp hp with rfl | hp
    · exact Heap.get?_push_size _ hf
    · exact E.own p hp
  · intro p hp
    rcases List.mem_cons.mp hp with rfl | hp
    · exact ⟨S.ns.lt, fun o' hp => Nat.lt_irrefl _ (Heap.lt_size (S.pinned _ _ hp))⟩
    · exact S.nwA p hp
  · rw [List.map_cons]
    refine List.Pairwise.cons (fun a ha => ?_) S.ord
    obtain ⟨p, hp, rfl⟩ := List.mem_map.mp ha
    exact Heap.lt_size (S.own p hp)

theorem St.store (S : St c pin vs nw s) {i : Nat} {x : Str} {v : Value} {h' : Heap} {tk : Nat} (hk : c.ks[i]? = some x) (hn : h'.Ns c.env.locals (fun y => if y = x then some v else look c.ks vs y))
    (hs : Heap.SameBut c.env.locals s.heap h') (ht : 1 ≤ tk) : St c pin (vs.set i (some v)) nw { s with heap := h', toks := tk } where
  gr := S.gr.ext fun b o hb e => hs.extBut b o (Nat.ne_of_lt (Nat.lt_of_lt_of_le hb c.low)) e
  ns := by rw [look_set c.nd hk S.len] at hn; exact hn
  len := by rw [List.length_set]; exact S.len
  pinned := fun b o h => hs.extBut b o (fun e => S.pL o (e ▸ h)) (S.pinned b o h)
  pL := S.pL
  p53 := S.p53
  ro := S.ro
  own := fun p hp => hs.extBut _ _ (Nat.ne_of_gt (S.nwA p hp).1) (S.own p hp)
  nwA := S.nwA
  ord := S.ord
  gens := S.gens
  os := S.os
  tk := ht
  b53 := S.b53.step fun o e => hs.extBut _ o (Nat.ne_of_lt (Nat.lt_of_lt_of_le (by decide) c.low)) e

theorem St.upd' (S : St c pin vs nw s) {j : Nat} {a : Addr} {o o' : Obj} {h' : Heap} {tk : Nat} (hj : nw[j]? = some (a, o)) (hs : Heap.ExtBut a s.heap h') (ho : h'.get? a = some o') (ht : 1 ≤ tk) :
    St c pin vs (nw.set j (a, o')) { s with heap := h', toks := tk } := by
  have hm := List.mem_of_getElem? hj
  obtain ⟨hl, he⟩ := List.getElem?_eq_some_iff.mp hj
  have Z := S.nwA _ hm
  have key : (nw.set j (a, o')).map (·.1) = nw.map (·.1) := by
    rw [List.map_set]
    have : (nw.map (·.1))[j]? = some a := by rw [List.getElem?_map, hj]; rfl
    refine List.ext_getElem? fun k => ?_
    rw [List.getElem?_set]
    split
    · rename_i e; subst e
      rw [this]; simp [hl]
    · rfl
  have old : ∀ k p, nw[k]? = some p → k ≠ j → p.1 ≠ a := by
    intro k p hk hkj e
    obtain ⟨l1, e1⟩ := List.getElem?_eq_some_iff.mp hk
    have P := List.pairwise_iff_getElem.mp S.ord
    rcases Nat.lt_or_gt_of_ne hkj with h | h
    · have := P k j (by simpa using l1) (by simpa using hl) h
      simp only [List.getElem_map, e1, he, e] at this
      exact Nat.lt_irrefl _ this
    · have := P j k (by simpa using hl) (by simpa using l1) h
      simp only [List.getElem_map, e1, he, e] at this
      exact Nat.lt_irrefl _ this
  refine ⟨S.gr.ext fun b o hb e => hs b o (Nat.ne_of_lt (Nat.lt_trans (Nat.lt_of_lt_of_le hb c.low) Z.1)) e, S.ns.at' (fun o e => hs _ o (Nat.ne_of_lt Z.1) e), S.len, fun b o h => hs b o (fun e => Z.2 o (e ▸ h)) (S.pinned b o h), S.pL, S.p53, S.ro, ?_, ?_, by rw [key]; exact S.ord, S.gens, S.os, ht, S.b53.step fun o e => hs _ o (Nat.ne_of_lt (Nat.lt_trans (Nat.lt_of_lt_of_le (by decide) c.low) Z.1)) e⟩
  · intro p hp
    obtain ⟨k, hk⟩ := List.getElem?_of_mem hp
    rw [List.getElem?_set] at hk
    split at hk
    · rename_i e; subst e
      cases hk; exact ho
    · rename_i e
      exact hs _ _ (old k p hk (Ne.symm e)) (S.own p (List.mem_of_getElem? hk))
  · intro p hp
    obtain ⟨k, hk⟩ := List.getElem?_of_mem hp
    rw [List.getElem?_set] at hk
    split at hk
    · rename_i e; subst e
      cases hk; exact Z
    · exact S.nwA p (List.mem_of_getElem? hk)

theorem St.upd (S : St c pin vs nw s) {j : Nat} {a : Addr} {o o' : Obj} {h' : Heap} {tk : Nat} (hj : nw[j]? = some (a, o)) (hs : Heap.SameBut a s.heap h') (ho : h'.get? a = some o') (ht : 1 ≤ tk) :
    St c pin vs (nw.set j (a, o')) { s with heap := h', toks := tk } := S.upd' hj hs.extBut ho ht

theorem St.drop (S : St c pin vs nw s) {nw' : Nw} (h : nw'.Sublist nw) : St c pin vs nw' s where
  gr := S.gr
  ns := S.ns
  len := S.len
  pinned := S.pinned
  pL := S.pL
  p53 := S.p53
  ro := S.ro
  own := fun p hp => S.own p (h.subset hp)
  nwA := fun p hp => S.nwA p (h.subset hp)
  ord := S.ord.sublist (h.map _)
  gens := S.gens
  os := S.os
  tk := S.tk
  b53 := S.b53
end

/-- from every state that is so, whatever else is held, the tree ends well in a state that is so -/
structure Do {α : Type} (c : Cx) (t : Sem α) (Q : α → Vs → Nw → Prop) (vs : Vs) (nw : Nw) : Prop where
  run : ∀ pin s, St c pin vs nw s → wpAny (MM c.w) c.A t (fun a s' => 1 ≤ s'.toks → ∃ vs' nw', St c pin vs' nw' s' ∧ Q a vs' nw') (fun _ _ => False) s

section
variable {α β : Type} {c : Cx} {vs : Vs} {nw : Nw}

theorem Do.use {t : Sem α} {Q : α → Vs → Nw → Prop} (h : Do c t Q vs nw) {pin : Pin} {s : Shared} (S : St c pin vs nw s) :
    wpAny (MM c.w) c.A t (fun a s' => ∃ vs' nw', St c pin vs' nw' s' ∧ Q a vs' nw') (fun _ _ => False) s :=
  wpAny_with_toks S.tk (wpAny_mono (h.run pin s S) (fun _ _ x => x) fun _ _ x => x.elim)
theorem Do.opq {t : Sem α} {Q : α → Vs → Nw → Prop} (h : ∀ Q' : α → Vs → Nw → Prop, (∀ a vs nw, Q a vs nw → Q' a vs nw) → Do c t Q' vs nw) : Do c t Q vs nw := h Q fun _ _ _ x => x
theorem Do.mono {t : Sem α} {Q Q' : α → Vs → Nw → Prop} (h : Do c t Q vs nw) (hq : ∀ a vs nw, Q a vs nw → Q' a vs nw) : Do c t Q' vs nw :=
  Do.mk fun _ _ S => wpAny_mono (h.use S) (fun _ _ ⟨v, n, a, b⟩ _ => ⟨v, n, a, hq _ _ _ b⟩) fun _ _ x => x
theorem Do.pure {a : α} {Q : α → Vs → Nw → Prop} (h : Q a vs nw) : Do c (pure a) Q vs nw := Do.mk fun _ _ S => wpAny_pure fun _ => ⟨_, _, S, h⟩
theorem Do.drop {t : Sem α} {Q : α → Vs → Nw → Prop} {nw' : Nw} (h : Do c t Q vs nw') (hs : nw'.Sublist nw) : Do c t Q vs nw := Do.mk fun pin s S => h.run pin s (S.drop hs)
end
end Mine
end

section
open PySem PySem.W PySem.Calls PySem.Spec PyProof.Rows
set_option maxRecDepth 100000
namespace Mine

structure FnR (w : World) (s : Shared) (Post : Value → Nw → Prop) (v : Value) (nw : Nw) (s' : Shared) : Prop where
  post : Post v nw
  gr : Gr w s'.heap
  keep : ∀ b o, b ≠ 53 → s.heap.get? b = some o → s'.heap.get? b = some o
  own : ∀ p ∈ nw, s'.heap.get? p.1 = some p.2 ∧ s.heap.objs.size ≤ p.1
  ord : (nw.map (·.1)).Pairwise (· > ·)
  gens : AllBare s'.gens
  os : s'.os = s.os
  t53 : T53 s.heap s'.heap

/-- the contract of a def: called with these, while the read-only objects stand, it gives such a value and such new objects; all else is as it was but the one code table -/
noncomputable def Fn (f : Addr) (n : Nat) (args : List Value) (ro : Nw) (Post : Value → Nw → Prop) : Prop :=
  ∀ (w : World) (A : Around) (s : Shared), Rm n A → Gr w s.heap → AllBare s.gens → 1 ≤ s.toks → (∀ p ∈ ro, s.heap.get? p.1 = some p.2 ∧ p.1 ≠ 53) →
    codeAny (MM w) A (.call (.ref f) ⟨args, []⟩) (fun r s' => ∃ v nw, r = .ok (.ret v) ∧ FnR w s Post v nw s') s

theorem hi_ne {a : Nat} (h : 261 ≤ a) : a ≠ 53 := by omega

section
variable {c : Cx} {vs : Vs} {nw : Nw}

theorem St.after {pin : Pin} {s s' : Shared} {Post : Value → Nw → Prop} {v : Value} {nw' : Nw} (S : St c pin vs nw s) (R : FnR c.w s Post v nw' s') (ht : 1 ≤ s'.toks) : St c pin vs (nw' ++ nw) s' where
  gr := R.gr
  ns := S.ns.at' fun o e => R.keep _ o (hi_ne c.low) e
  len := S.len
  pinned := fun b o h => R.keep b o (fun e => S.p53 o (e ▸ h)) (S.pinned b o h)
  pL := S.pL
  p53 := S.p53
  ro := S.ro
  own := fun p hp => by
    rcases List.mem_append.mp hp with hp | hp
    · exact (R.own p hp).1
    · exact R.keep _ _ (hi_ne (Nat.le_trans c.low (Nat.le_of_lt (S.nwA p hp).1))) (S.own p hp)
  nwA := fun p hp => by
    rcases List.mem_append.mp hp with hp | hp
    · have h := (R.own p hp).2
      exact ⟨Nat.lt_of_lt_of_le S.ns.lt h, fun o hpin => Nat.lt_irrefl _ (Nat.lt_of_lt_of_le (Heap.lt_size (S.pinned _ _ hpin)) h)⟩
    · exact S.nwA p hp
  ord := by
    rw [List.map_append]
    refine List.pairwise_append.mpr ⟨R.ord, S.ord, fun a ha b hb => ?_⟩
    obtain ⟨p, hp, rfl⟩ := List.mem_map.mp ha
    obtain ⟨q, hq, rfl⟩ := List.mem_map.mp hb
    exact Nat.lt_of_lt_of_le (Heap.lt_size (S.own q hq)) (R.own p hp).2
  gens := R.gens
  os := R.os.trans S.os
  tk := ht
  b53 := S.b53.trans R.t53

/-- where an object that is read stands: among the owned or the read-only ones -/
noncomputable def Has (c : Cx) (nw : Nw) (a : Addr) (o : Obj) : Prop := (a, o) ∈ nw ∨ (a, o) ∈ c.ro
theorem St.get {pin : Pin} {s : Shared} {a : Addr} {o : Obj} (S : St c pin vs nw s) (h : Has c nw a o) : s.heap.get? a = some o ∧ a ≠ 53 := by
  rcases h with h | h
  · exact ⟨S.own _ h, hi_ne (Nat.le_trans c.low (Nat.le_of_lt (S.nwA _ h).1))⟩
  · have q : pin a o := S.ro _ h
    exact ⟨S.pinned _ _ q, fun e => S.p53 o (e ▸ q)⟩

theorem do_fn {f : Addr} {n : Nat} {args : List Value} {ro : Nw} {Post : Value → Nw → Prop} {Q : Value → Vs → Nw → Prop} (F : Fn f n args ro Post) (hn : Nat.ble n c.lev = true)
    (hro : ∀ p ∈ ro, Has c nw p.1 p.2) (h : ∀ v nw', Post v nw' → Q v vs (nw' ++ nw)) : Do c (call (.ref f) args) Q vs nw := Do.mk fun pin s S => by
  refine wpAny_call (codeAny_mono (F c.w c.A s (c.rm.le (Nat.le_of_ble_eq_true hn)) S.gr S.gens S.tk fun p hp => S.get (hro p hp)) fun r s' hr => ?_)
  obtain ⟨v, nw', rfl, R⟩ := hr
  exact fun ht => ⟨vs, nw' ++ nw, S.after R ht, h v nw' R.post⟩
end

/-- a def's fixed parts -/
structure Fd where
  f : Addr
  fd : World → FuncData
  body : World → List Stmt
  ks : List Str
  gs : List (Str × Value)
  nd : ks.Nodup
  ho : ∀ w, ∃ o, (KK w).lookup f = some o ∧ o.data = .func (fd w)
  hbody : ∀ w, (fd w).body = .stmts (body w)
  hcode : ∀ w, codeIn (KK w) (fd w).code (fd w).qualname = true
  loc : ∀ w, (ks.all fun x => decide ((fd w).scope.names.lookup x = some .local) && !(x == ("__debug__" : Str))) = true
  glo : ∀ w, (gs.all fun p => decide ((fd w).scope.names.lookup p.1 = some .globalImplicit) && !(p.1 == ("__debug__" : Str)) &&
    (nsIn (KK w) mainGlobals p.1 == some (some p.2) || (nsIn (KK w) mainGlobals p.1 == some none && bootBuiltins p.1 == some p.2 && !(p.1 == ("__name__" : Str))))) = true
  kind : ∀ w, (fd w).scope.kind = .function
  nocell : ∀ w, ((fd w).scope.names.all fun x => !(x.2 == .cell)) = true
  co : ∀ w, (fd w).scope.isCoroutine = false
  gen : ∀ w, (fd w).scope.isGenerator = false
  hg : ∀ w, (fd w).globals = mainGlobals
  hb : ∀ w, (fd w).builtins = builtinsNs

noncomputable def Fd.cx (D : Fd) (w : World) (A : Around) (L : Addr) (ro : Nw) (os : OsState × Heap) (lev : Nat) (rm : Rm lev A) (low : 261 ≤ L) : Cx where
  w := w
  A := A
  env := callEnv (D.fd w) L D.f
  ks := D.ks
  gs := D.gs
  ro := ro
  os := os
  lev := lev
  rm := rm
  hk := D.kind w
  nd := D.nd
  loc := fun x hx => by
    have := List.all_eq_true.mp (D.loc w) x hx
    rw [Bool.and_eq_true] at this
    exact ⟨of_decide_eq_true this.1, by simpa using this.2⟩
  glo := fun p hp => by
    have := List.all_eq_true.mp (D.glo w) p hp
    rw [Bool.and_eq_true, Bool.and_eq_true, Bool.or_eq_true, Bool.and_eq_true, Bool.and_eq_true] at this
    refine ⟨of_decide_eq_true this.1.1, by simpa using this.1.2, ?_⟩
    rcases this.2 with h | ⟨⟨h1, h2⟩, h3⟩
    · exact .inl (beq_iff_eq.mp h)
    · exact .inr ⟨beq_iff_eq.mp h1, beq_iff_eq.mp h2, by simpa using h3⟩
  hg := D.hg w
  hb := D.hb w
  low := low

noncomputable def retOf : Flow → Value
  | .ret v => v
  | _ => .none

theorem binds_look : ∀ {ks : List Str} {args : List Value} {m : Nat}, ks.Nodup → args.length ≤ ks.length → args.length + m = ks.length →
    (fun x => ((ks.take args.length).zip args).reverse.lookup x) = look ks (args.map some ++ List.replicate m none) := by
  intro ks args m nd hle hm
  funext x
  have lk : ∀ (ps : List (Str × Value)), (ps.map (·.1)).Nodup → ps.reverse.lookup x = ps.lookup x := by
    intro ps
    induction ps with
    | nil => intro _; rfl
    | cons p ps ih =>
      intro h
      rw [List.map_cons, List.nodup_cons] at h
      rw [List.reverse_cons, List.lookup_append, ih h.2, List.lookup_cons, List.lookup_cons, List.lookup_nil]
      by_cases hx : (x == p.1) = true
      · have hx' := beq_iff_eq.mp hx
        have hn : ps.lookup x = none := by
          cases e : ps.lookup x with
          | none => rfl
          | some v =>
            exfalso
            have : x ∈ ps.map (·.1) := by
              clear ih h hx'
              induction ps with
              | nil => cases e
              | cons q ps ih2 =>
                rw [List.lookup_cons] at e
                by_cases hq : (x == q.1) = true
                · rw [List.map_cons, beq_iff_eq.mp hq]; exact .head _
                · rw [Bool.not_eq_true] at hq; rw [hq] at e; exact .tail _ (ih2 e)
            exact h.1 (hx' ▸ this)
        rw [hn, hx]; rfl
      · rw [Bool.not_eq_true] at hx; rw [hx]; cases ps.lookup x <;> rfl
  have hk : (((ks.take args.length).zip args).map (·.1)) = ks.take args.length := by
    rw [List.map_fst_zip]; simp [Nat.min_eq_left hle]
  rw [lk _ (by rw [hk]; exact nd.sublist (List.take_sublist ..))]
  clear lk hk
  induction ks generalizing args m with
  | nil =>
    cases args with
    | nil => rfl
    | cons a as => simp at hle
  | cons k ks ih =>
    cases args with
    | nil =>
      simp only [List.length_nil, List.take_zero, List.zip_nil_left, List.lookup_nil, List.map_nil, List.nil_append]
      have : ∀ (l : List Str) (n : Nat), look l (List.replicate n none) x = none := by
        intro l
        induction l with
        | nil => intro n; rfl
        | cons y l ih =>
          intro n
          cases n with
          | zero => rfl
          | succ n =>
            simp only [look, List.replicate_succ, List.zip_cons_cons, List.lookup_cons]
            cases h : x == y with
            | true => rfl
            | false => exact ih n
      exact (this _ _).symm
    | cons a as =>
      simp only [List.length_cons, List.take_succ_cons, List.zip_cons_cons, List.lookup_cons, List.map_cons, List.cons_append, look]
      cases h : x == k with
      | true => rfl
      | false => exact ih (List.nodup_cons.mp nd).2 (by simpa using hle) (by simp at hm; omega)

theorem Fn.of (D : Fd) {n m : Nat} {args : List Value} {ro : Nw} {Post : Value → Nw → Prop} (hm : args.length + m = D.ks.length)
    (hbind : ∀ w, bindArgs (D.fd w) ⟨args, []⟩ = pure ((D.ks.take args.length).zip args))
    (h : ∀ w A L os rm low, Do (D.cx w A L ro os n rm low) (execs (D.body w) (callEnv (D.fd w) L D.f)) (fun fl _ nw => ∃ nw', nw'.Sublist nw ∧ Post (retOf fl) nw') (args.map some ++ List.replicate m none) []) :
    Fn D.f (n + 1) args ro Post := by
  intro w A s R G gb htk hro
  obtain ⟨o, hl, hd⟩ := D.ho w
  have hle : args.length ≤ D.ks.length := by omega
  have hloc : ∀ x ∈ (D.ks.take args.length).zip args, (D.fd w).scope.names.lookup x.1 = some .local := fun x hx => by
    have h1 : x.1 ∈ D.ks := List.mem_of_mem_take (List.of_mem_zip (a := x.1) (b := x.2) hx).1
    have := List.all_eq_true.mp (D.loc w) _ h1
    rw [Bool.and_eq_true] at this
    exact of_decide_eq_true this.1
  refine codeAny_call_def (by have := R.hd; show A.depth < 1000; omega) (G.K _ _ hl) hd G.nl (codeRec_of G.K (D.hcode w)) (D.hbody w) (BindsTo.of_eq (hbind w))
    (fun x hx => by have := List.all_eq_true.mp (D.nocell w) x hx; simpa using this) hloc (fun h₀ hns hk => ?_) (D.co w) (D.gen w) (D.kind w)
  rw [binds_look D.nd hle hm] at hns
  have S : St (D.cx w (A.deeper (callEnv (D.fd w) s.heap.objs.size D.f)) s.heap.objs.size ro (s.os, s.heap) n R.deeper G.size) (fun b o => s.heap.get? b = some o ∧ b ≠ 53) (args.map some ++ List.replicate m none) []
      { s with heap := h₀, toks := s.toks + ((D.ks.take args.length).zip args).length } := {
    gr := G.ext fun b o _ e => hk b o e
    ns := hns
    len := by simp; exact hm
    pinned := fun b o h => hk b o h.1
    pL := fun o h => Nat.lt_irrefl _ (Heap.lt_size h.1)
    p53 := fun o h => h.2 rfl
    ro := fun p hp => hro p hp
    own := fun p hp => nomatch hp
    nwA := fun p hp => nomatch hp
    ord := List.Pairwise.nil
    gens := gb
    os := rfl
    tk := Nat.le_add_right_of_le htk
    b53 := T53.of_tab G.tab fun o e => hk _ o e }
  refine wpAny_mono ((h w _ _ (s.os, s.heap) R.deeper G.size).use S) (fun fl s' hq => ?_) fun _ _ x => x.elim
  obtain ⟨vs', nw', S', nw'', hsub, hp⟩ := hq
  have S'' := S'.drop hsub
  refine ⟨_, nw'', rfl, ⟨?_, S''.gr, fun b o hb e => S''.pinned b o ⟨e, hb⟩, fun p hp => ⟨S''.own p hp, ?_⟩, S''.ord, S''.gens, S''.os, S''.b53⟩⟩
  · cases fl <;> exact hp
  · exact Nat.le_of_lt (S''.nwA p hp).1
end Mine
end

section
open PySem PySem.W PySem.Calls PySem.Spec PyProof.Rows
set_option maxRecDepth 100000
set_option linter.unusedVariables false
namespace Mine

section
variable {c : Cx} {vs : Vs} {nw : Nw}

/-! statements -/
theorem do_nil {Q : Flow → Vs → Nw → Prop} (h : Q .next vs nw) : Do c (execs [] c.env) Q vs nw := Do.mk fun _ _ S => wpAny_execs_nil (fun _ => ⟨_, _, S, h⟩)

noncomputable def thenQ (c : Cx) (rest : List Stmt) (Q : Flow → Vs → Nw → Prop) : Flow → Vs → Nw → Prop
  | .next => Do c (execs rest c.env) Q
  | f => Q f
theorem do_cons {st : Stmt} {rest : List Stmt} {Q : Flow → Vs → Nw → Prop} (h : Do c (exec st c.env) (thenQ c rest Q) vs nw) : Do c (execs (st :: rest) c.env) Q vs nw := Do.mk fun pin s S =>
  wpAny_execs_cons (wpAny_mono (h.use S) (fun f s' ⟨vs', nw', S', h'⟩ => by
    cases f with
    | next => exact h'.run pin s' S'
    | brk => exact fun _ => ⟨vs', nw', S', h'⟩
    | cont => exact fun _ => ⟨vs', nw', S', h'⟩
    | ret v => exact fun _ => ⟨vs', nw', S', h'⟩) fun _ _ x => x)

theorem do_storeName {i : Nat} {x : Str} {v : Value} {Q : Unit → Vs → Nw → Prop} (hk : c.ks[i]? = some x) (h : Q () (vs.set i (some v)) nw) : Do c (storeName c.env x v) Q vs nw := Do.mk fun pin s S =>
  wpAny_storeName_local (c.loc x (List.mem_of_getElem? hk)).1 S.ns (fun _ hn hs ht => ⟨_, _, S.store hk hn hs ht, h⟩)
    (by rw [c.hk]; rfl)

theorem do_Assign {i : Nat} {x : Str} {pos' pos : Pos} {value : Expr} {Q : Flow → Vs → Nw → Prop} (hk : c.ks[i]? = some x)
    (h : Do c (eval value c.env) (fun v vs nw => Q .next (vs.set i (some v)) nw) vs nw)
    (hs : swapsWith value (some (.Name x pos')) pos.line c.env = pure false := by rfl) : Do c (exec (.Assign [.Name x pos'] value pos) c.env) Q vs nw := Do.mk fun pin s S =>
  wpAny_Assign_Name (wpAny_mono (h.use S) (fun v s₁ ⟨_, _, S₁, h₁⟩ => (do_storeName (Q := fun _ => Q .next) hk h₁).run pin s₁ S₁) fun _ _ x => x) hs

theorem do_loadName {i : Nat} {x : Str} {v : Value} {Q : Value → Vs → Nw → Prop} (hk : c.ks[i]? = some x) (hv : vs[i]? = some (some v)) (h : Q v vs nw) : Do c (loadName c.env x) Q vs nw := Do.mk fun _ _ S =>
  wpAny_loadName_local c.hk (c.loc x (List.mem_of_getElem? hk)).1 S.ns (look_get c.nd hk hv) (fun _ => ⟨_, _, S, h⟩)

theorem do_Aug {i : Nat} {x : Str} {pos' pos : Pos} {op : Operator} {value : Expr} {old : Value} {Q : Flow → Vs → Nw → Prop} (hk : c.ks[i]? = some x) (hv : vs[i]? = some (some old))
    (h : Do c (eval value c.env) (fun v => Do c (inplaceOp op old v) (fun r vs nw => Q .next (vs.set i (some r)) nw)) vs nw) :
    Do c (exec (.AugAssign (.Name x pos') op value pos) c.env) Q vs nw := Do.mk fun pin s S =>
  wpAny_AugAssign_Name (wpAny_mono ((do_loadName (Q := fun v vs' nw' => v = old ∧ vs' = vs ∧ nw' = nw) hk hv ⟨rfl, rfl, rfl⟩).use S) (fun o s₁ ⟨_, _, S₁, e1, e2, e3⟩ => by
    subst e1 e2 e3
    exact wpAny_mono (h.use S₁) (fun v s₂ ⟨_, _, S₂, h₂⟩ => wpAny_mono (h₂.use S₂) (fun r s₃ ⟨_, _, S₃, h₃⟩ => (do_storeName (Q := fun _ => Q .next) hk h₃).run pin s₃ S₃) fun _ _ x => x) fun _ _ x => x) fun _ _ x => x)

theorem do_Expr {e : Expr} {pos : Pos} {Q : Flow → Vs → Nw → Prop} (h : Do c (eval e c.env) (fun v vs nw => (∀ a, v ≠ .ref a) ∧ Q .next vs nw) vs nw)
    (hi : interactive c.env = false := by rfl) (hs : swapsWith e none pos.line c.env = pure false := by rfl) : Do c (exec (.Expr e pos) c.env) Q vs nw := Do.mk fun pin s S =>
  wpAny_Expr (wpAny_mono (h.use S) (fun v s' ⟨_, _, S', hv, h'⟩ => by cases v <;> first | exact (fun _ => ⟨_, _, S', h'⟩) | exact absurd rfl (hv _)) fun _ _ x => x) hi hs

theorem do_Return {e : Expr} {pos : Pos} {Q : Flow → Vs → Nw → Prop} (h : Do c (eval e c.env) (fun v => Q (.ret v)) vs nw) : Do c (exec (.Return (some e) pos) c.env) Q vs nw := Do.mk fun pin s S =>
  wpAny_Return_some (h.run pin s S)
theorem do_Break {pos : Pos} {Q : Flow → Vs → Nw → Prop} (h : Q .brk vs nw) : Do c (exec (.Break pos) c.env) Q vs nw := Do.mk fun _ _ S => wpAny_Break (fun _ => ⟨_, _, S, h⟩)
theorem do_Continue {pos : Pos} {Q : Flow → Vs → Nw → Prop} (h : Q .cont vs nw) : Do c (exec (.Continue pos) c.env) Q vs nw := Do.mk fun _ _ S => wpAny_Continue (fun _ => ⟨_, _, S, h⟩)

theorem do_If {test : Expr} {body orelse : List Stmt} {pos : Pos} {Q : Flow → Vs → Nw → Prop}
    (h : Do c (isTrue test c.env (eval test c.env)) (fun b vs nw => (b = true → Do c (execs body c.env) Q vs nw) ∧ (b = false → Do c (execs orelse c.env) Q vs nw)) vs nw) :
    Do c (exec (.If test body orelse pos) c.env) Q vs nw := Do.mk fun pin s S =>
  wpAny_If (wpAny_mono (h.use S) (fun b s' ⟨_, _, S', h1, h2⟩ => by
    cases b with
    | true => exact (h1 rfl).run pin s' S'
    | false => exact (h2 rfl).run pin s' S') fun _ _ x => x)

noncomputable def loopQ (I : Nat → Vs → Nw → Prop) (n : Nat) (Q : Flow → Vs → Nw → Prop) : Flow → Vs → Nw → Prop
  | .next, vs, nw => ∃ m, m < n ∧ I m vs nw
  | .cont, vs, nw => ∃ m, m < n ∧ I m vs nw
  | .brk, vs, nw => Q .next vs nw
  | .ret v, vs, nw => Q (.ret v) vs nw

theorem do_While {test : Expr} {body : List Stmt} {pos : Pos} {Q : Flow → Vs → Nw → Prop} (I : Nat → Vs → Nw → Prop) (n₀ : Nat) (h0 : I n₀ vs nw)
    (turn : ∀ n vs nw, I n vs nw → Do c (isTrue test c.env (eval test c.env)) (fun b vs nw => (b = true → Do c (execs body c.env) (loopQ I n Q) vs nw) ∧ (b = false → Q .next vs nw)) vs nw) :
    Do c (exec (.While test body [] pos) c.env) Q vs nw := Do.mk fun pin s S => by
  refine wpAny_While (codeAny_whileLoop (fun n s' => ∃ vs nw, St c pin vs nw s' ∧ I n vs nw) ?_ n₀ ⟨vs, nw, S, h0⟩)
  intro n s' hRq
  refine gopq fun _ hGq => ?_
  obtain ⟨vs₁, nw₁, S₁, I₁⟩ := hRq
  refine hGq ?_
  refine wpAny_mono ((turn n vs₁ nw₁ I₁).use S₁) (fun b s₂ h₂ => ?_) fun _ _ x => x.elim
  refine gopq fun _ hGq => ?_
  obtain ⟨vs₂, nw₂, S₂, ht, hf⟩ := h₂
  refine hGq ?_
  cases b with
  | false => exact wpAny_execs_nil fun _ => ⟨vs₂, nw₂, S₂, hf rfl⟩
  | true =>
    refine wpAny_mono ((ht rfl).use S₂) (fun f s₃ h₃ => ?_) fun _ _ x => x.elim
    refine gopq fun _ hGq => ?_
    obtain ⟨vs₃, nw₃, S₃, h₃⟩ := h₃
    refine hGq ?_
    cases f with
    | next => obtain ⟨m, hm, hI⟩ := h₃; exact ⟨m, hm, vs₃, nw₃, S₃, hI⟩
    | cont => obtain ⟨m, hm, hI⟩ := h₃; exact ⟨m, hm, vs₃, nw₃, S₃, hI⟩
    | brk => exact fun _ => ⟨vs₃, nw₃, S₃, h₃⟩
    | ret v => exact fun _ => ⟨vs₃, nw₃, S₃, h₃⟩

/-! for -/
structure ForAt (c : Cx) (target : Expr) (body : List Stmt) (xv : Value) (Q : Flow → Vs → Nw → Prop) (vs : Vs) (nw : Nw) : Prop where
  run : ∀ pin s, St c pin vs nw s → wpAny (MM c.w) c.A (pyIter xv) (fun it s₂ => codeAny (MM c.w) c.A (.forLoop target it body [] c.env) (fun r s' => ∃ f vs' nw', r = .ok f ∧ St c pin vs' nw' s' ∧ Q f vs' nw') s₂) (fun _ _ => False) s

theorem do_For {target iter : Expr} {body : List Stmt} {pos : Pos} {Q : Flow → Vs → Nw → Prop} (h : Do c (eval iter c.env) (fun xv => ForAt c target body xv Q) vs nw)
    (hs : ∀ x, foldedSetIterable iter c.env x = pure x := by intro _; rfl) : Do c (exec (.For target iter body [] pos) c.env) Q vs nw := Do.mk fun pin s S =>
  wpAny_For (wpAny_mono (h.use S) (fun xv s₁ ⟨_, _, S₁, h₁⟩ => wpAny_mono (h₁.run pin s₁ S₁) (fun it s₂ h₂ => codeAny_mono h₂ fun r s' ⟨f, vs', nw', e, S', q⟩ => by
    subst e; exact fun _ => ⟨vs', nw', S', q⟩) fun _ _ x => x) fun _ _ x => x) hs

/-- the state with more pinned -/
theorem St.pinMore {pin pin' : Pin} {s : Shared} (S : St c pin vs nw s) (h1 : ∀ b o, pin' b o → pin b o ∨ (s.heap.get? b = some o ∧ b ≠ c.env.locals ∧ b ≠ 53 ∧ ∀ p ∈ nw, p.1 ≠ b)) (h2 : ∀ b o, pin b o → pin' b o) : St c pin' vs nw s where
  gr := S.gr
  ns := S.ns
  len := S.len
  pinned := fun b o h => (h1 b o h).elim (S.pinned b o) fun q => q.1
  pL := fun o h => (h1 _ o h).elim (S.pL o) fun q => q.2.1 rfl
  p53 := fun o h => (h1 _ o h).elim (S.p53 o) fun q => q.2.2.1 rfl
  ro := fun p hp => h2 _ _ (S.ro p hp)
  own := S.own
  nwA := fun p hp => ⟨(S.nwA p hp).1, fun o h => (h1 _ o h).elim ((S.nwA p hp).2 o) fun q => q.2.2.2 p hp rfl⟩
  ord := S.ord
  gens := S.gens
  os := S.os
  tk := S.tk
  b53 := S.b53
theorem St.pinLess {pin pin' : Pin} {s : Shared} (S : St c pin' vs nw s) (h : ∀ b o, pin b o → pin' b o) (hro : ∀ p ∈ c.ro, pin p.1 p.2) : St c pin vs nw s where
  gr := S.gr
  ns := S.ns
  len := S.len
  pinned := fun b o q => S.pinned b o (h b o q)
  pL := fun o q => S.pL o (h _ o q)
  p53 := fun o q => S.p53 o (h _ o q)
  ro := hro
  own := S.own
  nwA := fun p hp => ⟨(S.nwA p hp).1, fun o q => (S.nwA p hp).2 o (h _ o q)⟩
  ord := S.ord
  gens := S.gens
  os := S.os
  tk := S.tk
  b53 := S.b53

/-- all kept but some addresses that nothing of the state lies at -/
theorem St.extBut {pin : Pin} {s : Shared} (S : St c pin vs nw s) {h' : Heap} {tk : Nat} {wr : List Addr} (hk : ∀ b o, b ∉ wr → s.heap.get? b = some o → h'.get? b = some o)
    (hw : ∀ b ∈ wr, c.env.locals < b ∧ (∀ o, ¬ pin b o) ∧ ∀ p ∈ nw, p.1 ≠ b) (ht : 1 ≤ tk) : St c pin vs nw { s with heap := h', toks := tk } where
  gr := S.gr.ext fun b o hb e => hk b o (fun hm => Nat.lt_irrefl _ (Nat.lt_trans (Nat.lt_of_lt_of_le hb c.low) (hw b hm).1)) e
  ns := S.ns.at' fun o e => hk _ o (fun hm => Nat.lt_irrefl _ (hw _ hm).1) e
  len := S.len
  pinned := fun b o h => hk b o (fun hm => (hw b hm).2.1 o h) (S.pinned b o h)
  pL := S.pL
  p53 := S.p53
  ro := S.ro
  own := fun p hp => hk _ _ (fun hm => (hw _ hm).2.2 p hp rfl) (S.own p hp)
  nwA := S.nwA
  ord := S.ord
  gens := S.gens
  os := S.os
  tk := ht
  b53 := S.b53.step fun o e => hk _ o (fun hm => Nat.lt_irrefl _ (Nat.lt_trans (Nat.lt_of_lt_of_le (show 53 < 261 by decide) c.low) (hw _ hm).1)) e

theorem notMem_of_ge {s : Shared} {pin : Pin} (S : St c pin vs nw s) {b : Addr} (hb : s.heap.objs.size ≤ b) : c.env.locals < b ∧ (∀ o, ¬ pin b o) ∧ ∀ p ∈ nw, p.1 ≠ b :=
  ⟨Nat.lt_of_lt_of_le S.ns.lt hb, fun o q => Nat.lt_irrefl _ (Nat.lt_of_lt_of_le (Heap.lt_size (S.pinned _ _ q)) hb), fun p hp e => Nat.lt_irrefl _ (Nat.lt_of_lt_of_le (e ▸ Heap.lt_size (S.own p hp)) hb)⟩

/-- a loop by an iterator: `ext`: the objects outside the iterator that it reads -/
theorem for_walk {i : Nat} {x : Str} {px : Pos} {body : List Stmt} {xv : Value} {Q : Flow → Vs → Nw → Prop} {n : Nat} {P : Nat → Value → Prop} (hx : c.ks[i]? = some x) (ext : Nw) (I : Nat → Vs → Nw → Prop)
    (hit : ∀ pin s, St c pin vs nw s → wpAny (MM c.w) c.A (pyIter xv) (fun it s₂ => ∃ a fp wr St₀ h' tk, it = .ref a ∧ s₂ = { s with heap := h', toks := tk } ∧ Walks PR c.w c.A a fp wr n P St₀ ∧ St₀ 0 h' ∧
      (∀ b o, s.heap.get? b = some o → h'.get? b = some o) ∧ (∀ b ∈ wr, s.heap.objs.size ≤ b) ∧ (∀ b ∈ fp, b ∈ wr ∨ ∃ o, (b, o) ∈ ext) ∧ ∀ k h, St₀ k h → ∀ b ∈ wr, ∃ o, h.get? b = some o) (fun _ _ => False) s)
    (h0 : I 0 vs nw) (hext : ∀ k vs nw, I k vs nw → ∀ p ∈ ext, Has c nw p.1 p.2)
    (turn : ∀ k v vs nw, k < n → P k v → I k vs nw → Do c (execs body c.env) (fun f vs nw => match f with
      | .next | .cont => I (k + 1) vs nw
      | .brk => Q .next vs nw
      | .ret v => Q (.ret v) vs nw) (vs.set i (some v)) nw)
    (fin : ∀ vs nw, I n vs nw → Q .next vs nw) : ForAt c (.Name x px) body xv Q vs nw := ForAt.mk fun pin s S => by
  refine wpAny_with_toks S.tk (wpAny_mono (hit pin s S) (fun it s₂ hh ht => ?_) fun _ _ x => x.elim)
  refine gopq fun _ hGq => ?_
  obtain ⟨a, fp, wr, St₀, h', tk, rfl, rfl, W, st0, hk, hwr, hfp, hex⟩ := hh
  refine hGq ?_
  have S₀ : St c pin vs nw { s with heap := h', toks := tk } := S.ext hk ht
  refine codeAny_forLoop (fun m s' => ∃ k vs nw, m = n + 1 - k ∧ k ≤ n ∧ St c pin vs nw s' ∧ I k vs nw ∧ St₀ k s'.heap ∧ ∀ b ∈ wr, c.env.locals < b ∧ (∀ o, ¬ pin b o) ∧ ∀ p ∈ nw, p.1 ≠ b) ?_ (n + 1)
    ⟨0, vs, nw, rfl, Nat.zero_le _, S₀, h0, st0, fun b hb => notMem_of_ge S (hwr b hb)⟩
  intro m s' hRq
  refine gopq fun _ hGq => ?_
  obtain ⟨k, vs₁, nw₁, rfl, hkn, S₁, I₁, st₁, hw₁⟩ := hRq
  refine hGq ?_
  by_cases hlt : k < n
  · refine wpAny_with_toks S₁.tk (W.item k s' _ _ hlt st₁ fun v h₂ tk₂ hv st₂ hk₂ ht₂ => ?_)
    have S₂ : St c pin vs₁ nw₁ { s' with heap := h₂, toks := tk₂ } := S₁.extBut hk₂ hw₁ ht₂
    refine wpAny_assign_Name (wpAny_mono ((do_storeName (v := v) (Q := fun _ vs' nw' => vs' = vs₁.set i (some v) ∧ nw' = nw₁) hx ⟨rfl, rfl⟩).use (pin := fun b o => pin b o ∨ (b ∈ wr ∧ h₂.get? b = some o ∧ b ≠ 53)) ?_) (fun _ s₃ h₃ => ?_) fun _ _ x => x.elim)
    · refine S₂.pinMore (fun b o q => ?_) fun b o q => .inl q
      rcases q with q | ⟨q1, q2, q3⟩
      · exact .inl q
      · exact .inr ⟨q2, Nat.ne_of_gt (hw₁ b q1).1, q3, (hw₁ b q1).2.2⟩
    · refine gopq fun _ hGq => ?_
      obtain ⟨vs', nw', S₃, e1, e2⟩ := h₃
      refine hGq ?_
      rw [e1, e2] at S₃
      refine wpAny_mono ((turn k v vs₁ nw₁ hlt hv I₁).use S₃) (fun f s₄ h₄ => ?_) fun _ _ x => x.elim
      refine gopq fun _ hGq => ?_
      obtain ⟨vs₄, nw₄, S₄, h₄⟩ := h₄
      refine hGq ?_
      have S₅ : St c pin vs₄ nw₄ s₄ := S₄.pinLess (fun b o q => .inl q) S₁.ro
      have go : I (k + 1) vs₄ nw₄ → ∃ m, m < n + 1 - k ∧ ∃ k' vs nw, m = n + 1 - k' ∧ k' ≤ n ∧ St c pin vs nw s₄ ∧ I k' vs nw ∧ St₀ k' s₄.heap ∧ ∀ b ∈ wr, c.env.locals < b ∧ (∀ o, ¬ pin b o) ∧ ∀ p ∈ nw, p.1 ≠ b := by
        intro I₄
        refine ⟨n + 1 - (k + 1), by omega, k + 1, vs₄, nw₄, rfl, hlt, S₅, I₄, W.frame _ _ _ st₂ fun b hb o e => ?_, fun b hb => ⟨(hw₁ b hb).1, (hw₁ b hb).2.1, fun p hp e => ?_⟩⟩
        · rcases hfp b hb with hm | ⟨o', ho'⟩
          · exact S₄.pinned b o (.inr ⟨hm, e, hi_ne (Nat.le_trans c.low (Nat.le_of_lt (hw₁ b hm).1))⟩)
          · have g1 := (S₂.get (hext k vs₁ nw₁ I₁ _ ho')).1
            have g2 := (S₅.get (hext (k + 1) vs₄ nw₄ I₄ _ ho')).1
            have : o = o' := Option.some.inj (e.symm.trans g1)
            rw [this]; exact g2
        · -- an owned object is not pinned, the iterator's are
          obtain ⟨o, hq⟩ := hex _ _ st₂ b hb
          exact (S₄.nwA p hp).2 o (e ▸ .inr ⟨hb, hq, hi_ne (Nat.le_trans c.low (Nat.le_of_lt (hw₁ b hb).1))⟩)
      cases f with
      | next => exact go h₄
      | cont => exact go h₄
      | brk => exact ⟨_, vs₄, nw₄, rfl, S₅, h₄⟩
      | ret v => exact ⟨_, vs₄, nw₄, rfl, S₅, h₄⟩
  · have hkn' : k = n := by omega
    subst hkn'
    exact wpAny_with_toks S₁.tk (W.done s' _ _ st₁ fun h₂ tk₂ hk₂ ht₂ => wpAny_execs_nil ⟨_, vs₁, nw₁, rfl, S₁.extBut hk₂ hw₁ ht₂, fin vs₁ nw₁ I₁⟩)
end
end Mine
end

section
open PySem PySem.W PySem.Calls PySem.Spec PyProof.Rows
set_option maxRecDepth 100000
set_option linter.unusedVariables false
namespace Mine

section
variable {c : Cx} {vs : Vs} {nw : Nw} {Q : Value → Vs → Nw → Prop}

/-! names and constants -/
theorem do_loc (i : Nat) {x : Str} {pos : Pos} {v : Value} (hk : c.ks[i]? = some x) (hv : vs[i]? = some (some v)) (h : Q v vs nw) : Do c (eval (.Name x pos) c.env) Q vs nw := Do.mk fun pin s S =>
  wpAny_Name ((do_loadName hk hv h).run pin s S) (c.loc x (List.mem_of_getElem? hk)).2

theorem globNs {pin : Pin} {s : Shared} (S : St c pin vs nw s) {x : Str} {v : Value} (g : GlobIs c.w x v) {Q : Value → Shared → Prop} (h : Q v s) : wpAny (MM c.w) c.A (loadGlobal c.env x) Q (fun _ _ => False) s := by
  obtain ⟨mg, hn⟩ := S.gr.g
  rcases g with g | ⟨g1, g2, g3⟩
  · exact loadGlobal_global (by rw [c.hg]; exact hn) (mg_of S.gr.K hn g) h
  · obtain ⟨mb, hb, hv⟩ := S.gr.b
    exact loadGlobal_builtin (by rw [c.hg]; exact hn) (mg_none_of S.gr.K hn g1) (by rw [c.hb]; exact hb) ((hv x g3).trans g2) h

theorem do_glob (i : Nat) {x : Str} {pos : Pos} {v : Value} (hk : c.gs[i]? = some (x, v)) (h : Q v vs nw) : Do c (eval (.Name x pos) c.env) Q vs nw := Do.mk fun pin s S => by
  obtain ⟨h1, h2, h3⟩ := c.glo _ (List.mem_of_getElem? hk)
  exact Name_function_global c.hk h1 (globNs S h3 (fun _ => ⟨_, _, S, h⟩)) h2

theorem do_int {i : Int} {k : Nat} {pos : Pos} (h : ∀ t, Q (.int i t) vs nw) : Do c (eval (.Constant (.int i) k pos) c.env) Q vs nw := Do.mk fun pin s S => wpAny_Constant_int (fun ht => ⟨_, _, S.toks ht, h _⟩)
theorem do_str {x : Str} {k : Nat} {pos : Pos} (h : ∀ t, Q (.str x t) vs nw) : Do c (eval (.Constant (.str x) k pos) c.env) Q vs nw := Do.mk fun pin s S => wpAny_Constant_str (fun ht => ⟨_, _, S.toks ht, h _⟩)
theorem do_bool {b : Bool} {k : Nat} {pos : Pos} (h : Q (.bool b) vs nw) : Do c (eval (.Constant (.bool b) k pos) c.env) Q vs nw := Do.mk fun pin s S => wpAny_Constant_bool (fun _ => ⟨_, _, S, h⟩)
theorem do_none {k : Nat} {pos : Pos} (h : Q .none vs nw) : Do c (eval (.Constant .none k pos) c.env) Q vs nw := Do.mk fun pin s S => wpAny_Constant_none (fun _ => ⟨_, _, S, h⟩)

/-! operators -/
theorem do_Compare {l r : Expr} {op : CmpOp} {pos : Pos} (h : Do c (eval l c.env) (fun a => Do c (eval r c.env) (fun b => Do c (compareOp op a b) Q)) vs nw)
    (hm : behindInMarks op r = false := by with_unfolding_all rfl) : Do c (eval (.Compare l [op] [r] pos) c.env) Q vs nw := Do.mk fun pin s S =>
  wpAny_Compare1 (wpAny_mono (h.use S) (fun a s₁ ⟨_, _, S₁, h₁⟩ => wpAny_mono (h₁.use S₁) (fun b s₂ ⟨_, _, S₂, h₂⟩ => h₂.run pin s₂ S₂) fun _ _ x => x) fun _ _ x => x) hm
theorem do_BinOp {l r : Expr} {op : Operator} {pos : Pos} (h : Do c (eval l c.env) (fun a => Do c (eval r c.env) (fun b => Do c (binaryOp op a b) Q)) vs nw) : Do c (eval (.BinOp l op r pos) c.env) Q vs nw := Do.mk fun pin s S =>
  wpAny_BinOp (wpAny_mono (h.use S) (fun a s₁ ⟨_, _, S₁, h₁⟩ => wpAny_mono (h₁.use S₁) (fun b s₂ ⟨_, _, S₂, h₂⟩ => h₂.run pin s₂ S₂) fun _ _ x => x) fun _ _ x => x)
theorem do_UnaryOp {x : Expr} {op : UnaryOp} {pos : Pos} (h : Do c (eval x c.env) (fun a => Do c (unaryOp op a) Q) vs nw) : Do c (eval (.UnaryOp op x pos) c.env) Q vs nw := Do.mk fun pin s S =>
  wpAny_UnaryOp (wpAny_mono (h.use S) (fun a s₁ ⟨_, _, S₁, h₁⟩ => h₁.run pin s₁ S₁) fun _ _ x => x)
theorem do_IfExp {test body orelse : Expr} {pos : Pos} (h : Do c (isTrue test c.env (eval test c.env)) (fun b vs nw => (b = true → Do c (eval body c.env) Q vs nw) ∧ (b = false → Do c (eval orelse c.env) Q vs nw)) vs nw) :
    Do c (eval (.IfExp test body orelse pos) c.env) Q vs nw := Do.mk fun pin s S =>
  wpAny_IfExp (wpAny_mono (h.use S) (fun b s' ⟨_, _, S', h1, h2⟩ => by
    cases b with
    | true => exact (h1 rfl).run pin s' S'
    | false => exact (h2 rfl).run pin s' S') fun _ _ x => x)
theorem do_Or {x y : Expr} {pos : Pos} (h : Do c (eval x c.env) (fun v => Do c (truthy v) (fun b vs nw => (b = true → Q v vs nw) ∧ (b = false → Do c (eval y c.env) Q vs nw))) vs nw) : Do c (eval (.BoolOp .Or [x, y] pos) c.env) Q vs nw := Do.mk fun pin s S =>
  wpAny_Or2 (wpAny_mono (h.use S) (fun v s₁ ⟨_, _, S₁, h₁⟩ => wpAny_mono (h₁.use S₁) (fun b s₂ ⟨vs₂, nw₂, S₂, h1, h2⟩ => by
    cases b with
    | true => exact fun _ => ⟨vs₂, nw₂, S₂, h1 rfl⟩
    | false => exact (h2 rfl).run pin s₂ S₂) fun _ _ x => x) fun _ _ x => x)

section
variable {P : Bool → Vs → Nw → Prop}
theorem tr_Compare {l r : Expr} {op : CmpOp} {pos : Pos} {whole : Sem Value} (h : Do c (eval l c.env) (fun a => Do c (eval r c.env) (fun b => Do c (compareOp op a b) (fun v vs nw => ∃ b, v = .bool b ∧ P b vs nw))) vs nw)
    (hm : behindInMarks op r = false := by with_unfolding_all rfl) : Do c (isTrue (.Compare l [op] [r] pos) c.env whole) P vs nw := Do.mk fun pin s S =>
  wpAny_isTrue_Compare1 (wpAny_mono (h.use S) (fun a s₁ ⟨_, _, S₁, h₁⟩ => wpAny_mono (h₁.use S₁) (fun b s₂ ⟨_, _, S₂, h₂⟩ => wpAny_mono (h₂.use S₂) (fun v s₃ ⟨_, _, S₃, b, e, h₃⟩ => by
    subst e; exact wpAny_truthy_bool (fun _ => ⟨_, _, S₃, h₃⟩)) fun _ _ x => x) fun _ _ x => x) fun _ _ x => x) hm
theorem tr_Not {x : Expr} {pos : Pos} {whole : Sem Value} (h : Do c (isTrue x c.env (eval x c.env)) (fun b => P (!b)) vs nw) : Do c (isTrue (.UnaryOp .Not x pos) c.env whole) P vs nw := Do.mk fun pin s S =>
  wpAny_isTrue_Not (h.run pin s S)
theorem tr_val {e : Expr} (h : Do c (eval e c.env) (fun v => Do c (truthy v) P) vs nw)
    (he : isTrue e c.env (eval e c.env) = (do let v ← eval e c.env; standAt e.pos; holding [v] (truthy v)) := by rfl) : Do c (isTrue e c.env (eval e c.env)) P vs nw := Do.mk fun pin s S =>
  wpAny_isTrue_value (wpAny_mono (h.use S) (fun v s₁ ⟨_, _, S₁, h₁⟩ => h₁.run pin s₁ S₁) fun _ _ x => x) he
theorem tr_BoolOp {op : BoolOp} {es : List Expr} {pos : Pos} {whole : Sem Value} (h : Do c (allTrue op es c.env) P vs nw) : Do c (isTrue (.BoolOp op es pos) c.env whole) P vs nw := Do.mk fun pin s S => wpAny_isTrue_BoolOp (h.run pin s S)
theorem tr_and0 (h : P true vs nw) : Do c (allTrue .And [] c.env) P vs nw := Do.mk fun pin s S => wpAny_allTrue_And_nil (fun _ => ⟨_, _, S, h⟩)
theorem tr_or0 (h : P false vs nw) : Do c (allTrue .Or [] c.env) P vs nw := Do.mk fun pin s S => wpAny_allTrue_Or_nil (fun _ => ⟨_, _, S, h⟩)
theorem tr_and {x : Expr} {rest : List Expr} (h : Do c (isTrue x c.env (eval x c.env)) (fun b vs nw => (b = true → Do c (allTrue .And rest c.env) P vs nw) ∧ (b = false → P false vs nw)) vs nw) : Do c (allTrue .And (x :: rest) c.env) P vs nw := Do.mk fun pin s S =>
  wpAny_allTrue_And_cons (wpAny_mono (h.use S) (fun b s' ⟨vs', nw', S', h1, h2⟩ => by
    cases b with
    | true => exact (h1 rfl).run pin s' S'
    | false => exact fun _ => ⟨vs', nw', S', h2 rfl⟩) fun _ _ x => x)
theorem tr_or {x : Expr} {rest : List Expr} (h : Do c (isTrue x c.env (eval x c.env)) (fun b vs nw => (b = true → P true vs nw) ∧ (b = false → Do c (allTrue .Or rest c.env) P vs nw)) vs nw) : Do c (allTrue .Or (x :: rest) c.env) P vs nw := Do.mk fun pin s S =>
  wpAny_allTrue_Or_cons (wpAny_mono (h.use S) (fun b s' ⟨vs', nw', S', h1, h2⟩ => by
    cases b with
    | true => exact fun _ => ⟨vs', nw', S', h1 rfl⟩
    | false => exact (h2 rfl).run pin s' S') fun _ _ x => x)
theorem truthy_bool {b : Bool} (h : P b vs nw) : Do c (truthy (.bool b)) P vs nw := Do.mk fun pin s S => wpAny_truthy_bool (fun _ => ⟨_, _, S, h⟩)
end

/-! calls -/
theorem do_args0 {pos : Pos} {R : List Value → Vs → Nw → Prop} (h : R [] vs nw) : Do c (spliced (backTo pos (starEach [] c.env))) R vs nw := Do.mk fun pin s S => wpAny_items_nil (fun _ => ⟨_, _, S, h⟩)
theorem do_args {pos : Pos} {e : Expr} {rest : List Expr} {R : List Value → Vs → Nw → Prop} (h : Do c (eval e c.env) (fun v => Do c (spliced (backTo pos (starEach rest c.env))) (fun as => R (v :: as))) vs nw)
    (he : starEach (e :: rest) c.env = (false, eval e c.env) :: starEach rest c.env := by rfl) : Do c (spliced (backTo pos (starEach (e :: rest) c.env))) R vs nw := Do.mk fun pin s S =>
  wpAny_items_cons (wpAny_mono (h.use S) (fun v s₁ ⟨_, _, S₁, h₁⟩ => h₁.run pin s₁ S₁) fun _ _ x => x) he

theorem evalArgs_of {M : Model} {A : Around} {E : Value → Shared → Prop} {s : Shared} {f : Value} {trees : List (Bool × Sem Value)} {R : Args → Shared → Prop} (hplain : trees.any (·.1) = false)
    (h : wpAny M A (spliced trees) (fun vs s' => R ⟨vs, []⟩ s') E s) : wpAny M A (evalArgs f true trees []) R E s := by
  cases trees with
  | nil =>
    unfold evalArgs
    show wpAny M A (spliced [] >>= _) R E s
    refine wpAny_bind (wpAny_mono h (fun vs s' h' => ?_) fun _ _ x => x)
    refine wpAny_bind (wpAny_pure ?_)
    refine wpAny_holding ?_
    exact wpAny_bind (wpAny_pure (wpAny_bind (wpAny_pure (wpAny_pure h'))))
  | cons p rest =>
    obtain ⟨b, x⟩ := p
    cases b with
    | true => cases hplain
    | false => exact evalArgs_plain h

theorem do_CallB (i : Nat) {x : Str} {np pos : Pos} {args : List Expr} {id : String} (hk : c.gs[i]? = some (x, .builtin id)) (h : Do c (spliced (backTo pos (starEach args c.env))) (fun as => Do c (call (.builtin id) as) Q) vs nw)
    (hp : (backTo pos (starEach args c.env)).any (·.1) = false := by rfl) : Do c (eval (.Call (.Name x np) args [] pos) c.env) Q vs nw := Do.mk fun pin s S =>
  wpAny_Call_ofName (wpAny_mono ((do_glob (Q := fun v vs' nw' => v = .builtin id ∧ vs' = vs ∧ nw' = nw) i hk ⟨rfl, rfl, rfl⟩).use S) (fun f s₁ ⟨_, _, S₁, e1, e2, e3⟩ => by
    subst e1 e2 e3
    exact callWith_builtin hp (evalArgs_of hp (wpAny_mono (h.use S₁) (fun as s₂ ⟨_, _, S₂, h₂⟩ => h₂.run pin s₂ S₂) fun _ _ x => x))) fun _ _ x => x)
theorem do_CallT (i : Nat) {x : Str} {np pos : Pos} {args : List Expr} {T : String} (hk : c.gs[i]? = some (x, .type T)) (h : Do c (spliced (backTo pos (starEach args c.env))) (fun as => Do c (call (.type T) as) Q) vs nw)
    (hp : (backTo pos (starEach args c.env)).any (·.1) = false := by rfl) : Do c (eval (.Call (.Name x np) args [] pos) c.env) Q vs nw := Do.mk fun pin s S =>
  wpAny_Call_ofName (wpAny_mono ((do_glob (Q := fun v vs' nw' => v = .type T ∧ vs' = vs ∧ nw' = nw) i hk ⟨rfl, rfl, rfl⟩).use S) (fun f s₁ ⟨_, _, S₁, e1, e2, e3⟩ => by
    subst e1 e2 e3
    exact callWith_excType hp (evalArgs_of hp (wpAny_mono (h.use S₁) (fun as s₂ ⟨_, _, S₂, h₂⟩ => h₂.run pin s₂ S₂) fun _ _ x => x))) fun _ _ x => x)
theorem do_CallF (D : Fd) (i : Nat) {x : Str} {np pos : Pos} {args : List Expr} (hk : c.gs[i]? = some (x, .ref D.f)) (h : Do c (spliced (backTo pos (starEach args c.env))) (fun as => Do c (call (.ref D.f) as) Q) vs nw)
    (hp : (backTo pos (starEach args c.env)).any (·.1) = false := by rfl) : Do c (eval (.Call (.Name x np) args [] pos) c.env) Q vs nw := Do.mk fun pin s S => by
  obtain ⟨o, ho, hd⟩ := D.ho c.w
  exact wpAny_Call_ofName (wpAny_mono ((do_glob (Q := fun v vs' nw' => v = .ref D.f ∧ vs' = vs ∧ nw' = nw) i hk ⟨rfl, rfl, rfl⟩).use S) (fun f s₁ ⟨_, _, S₁, e1, e2, e3⟩ => by
    subst e1 e2 e3
    exact callWith_function (o := o) (fd := D.fd c.w) (evalArgs_of hp (wpAny_mono (h.use S₁) (fun as s₂ ⟨_, _, S₂, h₂⟩ => ⟨⟨S₂.gr.K _ _ ho, hd⟩, h₂.run pin s₂ S₂⟩) fun _ _ x => x))) fun _ _ x => x)

/-- a method of a built-in type: T its type, id the method -/
noncomputable def OfType (c : Cx) (nw : Nw) (v : Value) (T : String) : Prop := (∃ x t, v = .str x t ∧ T = "str") ∨ (∃ a o, v = .ref a ∧ o.cls = .type T ∧ o.dict = none ∧ (Has c nw a o ∨ (KK c.w).lookup a = some o))
theorem OfType.str {x : Str} {t : Tok} : OfType c nw (.str x t) "str" := .inl ⟨x, t, rfl, rfl⟩
theorem OfType.is {pin : Pin} {s : Shared} {v : Value} {T : String} (S : St c pin vs nw s) (h : OfType c nw v T) : s.TypeIs v T ∧ ∀ a, v = .ref a → ∃ ob, s.heap.get? a = some ob ∧ ob.dict = none := by
  rcases h with ⟨x, t, rfl, rfl⟩ | ⟨a, o, rfl, hc, hd, h⟩
  · exact ⟨typeIs_str _ _ _, fun a e => by cases e⟩
  · have hg : s.heap.get? a = some o := h.elim (fun h => (S.get h).1) fun h => S.gr.K _ _ h
    exact ⟨⟨o, hg, hc⟩, fun a' e => by cases e; exact ⟨o, hg, hd⟩⟩

theorem do_Meth {o : Expr} {name : Str} {apos pos : Pos} {args : List Expr} {T id : String} (pa : PlainAttrs T) (slot : Slot T name id) (hty : typeOf (.builtin id) = pure (.type "method_descriptor"))
    (h : Do c (eval o c.env) (fun ov vs nw => OfType c nw ov T ∧ Do c (spliced (backTo pos (starEach args c.env))) (fun as => Do c (call (.builtin id) (ov :: as)) Q) vs nw) vs nw)
    (hbase : attributeBase o name c.env (eval o c.env) = eval o c.env := by rfl)
    (hfew : ((backTo pos (starEach args c.env)).all (fun x => !x.1) && (backToKw pos (keywordEach [] c.env)).all (fun x => x.1.isSome)
      && decide (args.length + ([] : List Keyword).length + (if ([] : List Keyword).isEmpty then 0 else 1) < 30)) = true := by rfl)
    (hline : (apos.endLine == pos.line) = true := by rfl) (hp : (backTo pos (starEach args c.env)).any (·.1) = false := by rfl) :
    Do c (eval (.Call (.Attribute o name apos) args [] pos) c.env) Q vs nw := Do.mk fun pin s S =>
  wpAny_Call_method_lateS hbase hfew hline (wpAny_mono (h.use S) (fun ov s₁ ⟨_, _, S₁, ht, h₁⟩ =>
    ⟨T, id, pa, slot, hty, (ht.is S₁).1, (ht.is S₁).2, callWith_builtin hp (evalArgs_of hp (wpAny_mono (h₁.use S₁) (fun as s₂ ⟨_, _, S₂, h₂⟩ => h₂.run pin s₂ S₂) fun _ _ x => x))⟩) fun _ _ x => x)

/-! displays -/
noncomputable abbrev tupOf (items : List Value) : Obj := { cls := .type "tuple", data := .seq items.toArray }
noncomputable abbrev lstOf (items : List Value) (n : Nat) : Obj := { cls := .type "list", data := .seq items.toArray n }
theorem do_Tuple {elts : List Expr} {k : Nat} {pos : Pos} (h : Do c (spliced (backTo pos (starEach elts c.env))) (fun as vs nw => as.length ≤ sizeLine ∧ ∀ a, Q (.ref a) vs ((a, tupOf as) :: nw)) vs nw) : Do c (eval (.Tuple elts k pos) c.env) Q vs nw := Do.mk fun pin s S =>
  wpAny_Tuple (wpAny_mono (h.use S) (fun as s₁ ⟨_, _, S₁, hl, h₁⟩ => ⟨hl, fun ht => ⟨_, _, S₁.alloc _ rfl ht, h₁ _⟩⟩) fun _ _ x => x)
theorem do_List {elts : List Expr} {pos : Pos} (h : Do c (spliced (backTo pos (starEach elts c.env))) (fun as vs nw => as.length ≤ sizeLine ∧ ∀ a, Q (.ref a) vs ((a, lstOf as 0) :: nw)) vs nw) : Do c (eval (.List elts pos) c.env) Q vs nw := Do.mk fun pin s S =>
  wpAny_List (wpAny_mono (h.use S) (fun as s₁ ⟨_, _, S₁, hl, h₁⟩ => ⟨hl, fun ht => ⟨_, _, S₁.alloc _ rfl ht, h₁ _⟩⟩) fun _ _ x => x)

/-! subscripts -/
theorem do_Sub {value slice : Expr} {pos : Pos} (h : Do c (eval value c.env) (fun o => Do c (eval slice c.env) (fun i => Do c (subscriptTail value slice o i) Q)) vs nw) : Do c (eval (.Subscript value slice pos) c.env) Q vs nw := Do.mk fun pin s S =>
  Subscript_ (wpAny_mono (h.use S) (fun a s₁ ⟨_, _, S₁, h₁⟩ => wpAny_mono (h₁.use S₁) (fun b s₂ ⟨_, _, S₂, h₂⟩ => h₂.run pin s₂ S₂) fun _ _ x => x) fun _ _ x => x)
end
end Mine
end

section
open PySem PySem.W PySem.Calls PySem.Spec PyProof.Rows
set_option maxRecDepth 100000
set_option linter.unusedVariables false
namespace Mine

noncomputable def fdAt (a : Addr) (w : World) : FuncData := match (KK w).lookup a with
  | some ⟨_, _, .func fd, _⟩ => fd
  | _ => default
noncomputable def bodyAt (a : Addr) (w : World) : List Stmt := match (fdAt a w).body with
  | .stmts b => b
  | _ => []

noncomputable def fdOk (a : Addr) (ks : List Str) (gs : List (Str × Value)) (w : World) : Bool :=
  (match (KK w).lookup a with | some ⟨_, _, .func _, _⟩ => true | _ => false) && (match (fdAt a w).body with | .stmts _ => true | _ => false) &&
  codeIn (KK w) (fdAt a w).code (fdAt a w).qualname && decide ks.Nodup &&
  (ks.all fun x => decide ((fdAt a w).scope.names.lookup x = some .local) && !(x == ("__debug__" : Str))) &&
  (gs.all fun p => decide ((fdAt a w).scope.names.lookup p.1 = some .globalImplicit) && !(p.1 == ("__debug__" : Str)) &&
    (nsIn (KK w) mainGlobals p.1 == some (some p.2) || (nsIn (KK w) mainGlobals p.1 == some none && bootBuiltins p.1 == some p.2 && !(p.1 == ("__name__" : Str))))) &&
  ((fdAt a w).scope.kind == .function) && ((fdAt a w).scope.names.all fun x => !(x.2 == .cell)) && !(fdAt a w).scope.isCoroutine && !(fdAt a w).scope.isGenerator && Nat.beq (fdAt a w).globals mainGlobals && Nat.beq (fdAt a w).builtins builtinsNs

noncomputable def mkFd (a : Addr) (ks : List Str) (gs : List (Str × Value)) (h : ∀ w, fdOk a ks gs w = true) : Fd := by
  have h' : ∀ w, _ := fun w => by
    have := h w
    unfold fdOk at this
    simp only [Bool.and_eq_true] at this
    exact this
  refine { f := a, fd := fdAt a, body := bodyAt a, ks := ks, gs := gs, nd := ?_, ho := ?_, hbody := ?_, hcode := ?_, loc := ?_, glo := ?_, kind := ?_, nocell := ?_, co := ?_, gen := ?_, hg := ?_, hb := ?_ }
  · exact of_decide_eq_true (h' (Classical.choice ⟨⟨fun _ _ => 0, ⟨fun _ => 0, fun _ => 0, id, fun _ => 0, fun _ _ => 0, fun _ => false, fun _ => 0, .refcount, .text, fun _ => 0, fun _ => none, fun _ => false, fun _ _ _ => true, fun _ _ _ => true, true, fun _ => false, fun _ => none, fun _ => none, fun _ _ _ => 0, fun _ _ => none, fun _ => none, fun _ => (0, false, "UTC"), fun _ => none, id, fun _ => false⟩⟩⟩)).1.1.1.1.1.1.1.1.2
  · intro w
    have := (h' w).1.1.1.1.1.1.1.1.1.1.1
    unfold fdAt
    split at this
    · rename_i e; rw [e]; exact ⟨_, rfl, rfl⟩
    · cases this
  · intro w
    have := (h' w).1.1.1.1.1.1.1.1.1.1.2
    unfold bodyAt
    split at this
    · rename_i e; rw [e]
    · cases this
  · intro w; exact (h' w).1.1.1.1.1.1.1.1.1.2
  · intro w; exact (h' w).1.1.1.1.1.1.1.2
  · intro w; exact (h' w).1.1.1.1.1.1.2
  · intro w; exact eq_of_beq (h' w).1.1.1.1.1.2
  · intro w; exact (h' w).1.1.1.1.2
  · intro w; simpa using (h' w).1.1.1.2
  · intro w; simpa using (h' w).1.1.2
  · intro w; exact Nat.eq_of_beq_eq_true (h' w).1.2
  · intro w; exact Nat.eq_of_beq_eq_true (h' w).2
end Mine
end

section
open PySem PySem.Builtin PySem.Builtin.Str
set_option linter.unusedVariables false
namespace Mine

noncomputable def S (l : List Nat) : Str := ⟨l.toArray⟩
theorem S_toList (l : List Nat) : (S l).cps.toList = l := rfl
theorem S_length (l : List Nat) : (S l).length = l.length := by simp [S, Str.length]
theorem S_of (x : Str) : x = S x.cps.toList := rfl
theorem S_inj {a b : List Nat} : S a = S b ↔ a = b := ⟨fun h => by have := congrArg (fun x : Str => x.cps.toList) h; exact this, fun h => h ▸ rfl⟩
theorem S_append (a b : List Nat) : S a ++ S b = S (a ++ b) := by
  apply Str.ext'; apply Array.toList_inj.mp; rw [Str.cps_append]; simp [S]
theorem S_beq (a b : List Nat) : (S a == S b) = (a == b) := by
  rw [Bool.eq_iff_iff, beq_iff_eq, beq_iff_eq, S_inj]
theorem S_bne (a b : List Nat) : (S a != S b) = (a != b) := by rw [bne, bne, S_beq]

/-! occurrences -/
theorem at_iff {a b : List Nat} {i : Nat} : StrLaws.At (S a) (S b) (S a).length i ↔ i + b.length ≤ a.length ∧ b <+: a.drop i := by
  unfold StrLaws.At
  rw [StrLaws.subAt_eq, S_length, S_length, S_toList, S_toList, beq_iff_eq]
  constructor
  · rintro ⟨h1, h2⟩
    have := List.take_append_drop b.length (a.drop i)
    rw [h2] at this
    exact ⟨h1, ⟨_, this⟩⟩
  · rintro ⟨h1, t, h2⟩
    refine ⟨h1, ?_⟩
    rw [← h2, List.take_left]

/-- all of y in turn, from the left, replaced by z -/
noncomputable def repl (y z : List Nat) : Nat → List Nat → List Nat
  | 0, l => l
  | _ + 1, [] => []
  | n + 1, c :: r => if y.isPrefixOf (c :: r) then z ++ repl y z n ((c :: r).drop y.length) else c :: repl y z n r

theorem repl_fuel {y z : List Nat} (hy : y ≠ []) : ∀ (n m : Nat) (l : List Nat), l.length ≤ n → l.length ≤ m → repl y z n l = repl y z m l
  | 0, m, l, h, _ => by
    have : l = [] := List.eq_nil_of_length_eq_zero (Nat.le_zero.mp h)
    subst this; cases m <;> rfl
  | n + 1, 0, l, _, h => by
    have : l = [] := List.eq_nil_of_length_eq_zero (Nat.le_zero.mp h)
    subst this; rfl
  | n + 1, m + 1, [], _, _ => rfl
  | n + 1, m + 1, c :: r, h1, h2 => by
    have hl : 0 < y.length := List.length_pos_iff.mpr hy
    simp only [List.length_cons] at h1 h2
    show (if _ then _ else _) = (if _ then _ else _)
    split
    · rw [repl_fuel hy n m _ (by rw [List.length_drop, List.length_cons]; omega) (by rw [List.length_drop, List.length_cons]; omega)]
    · rw [repl_fuel hy n m r (by omega) (by omega)]

noncomputable def replaceL (y z l : List Nat) : List Nat := repl y z l.length l
theorem replaceL_nil (y z : List Nat) : replaceL y z [] = [] := rfl
theorem replaceL_hit {y z : List Nat} (hy : y ≠ []) {l : List Nat} : replaceL y z (y ++ l) = z ++ replaceL y z l := by
  obtain ⟨c, r, rfl⟩ := List.exists_cons_of_ne_nil hy
  unfold replaceL
  show repl (c :: r) z (r ++ l).length.succ (c :: (r ++ l)) = _
  have hp : (c :: r).isPrefixOf (c :: (r ++ l)) = true := by rw [List.isPrefixOf_iff_prefix]; exact ⟨l, rfl⟩
  show (if (c :: r).isPrefixOf (c :: (r ++ l)) = true then z ++ repl (c :: r) z _ ((c :: (r ++ l)).drop (c :: r).length) else _) = _
  rw [if_pos hp, show (c :: (r ++ l)).drop (c :: r).length = l from by simp]
  exact congrArg (z ++ ·) (repl_fuel hy _ _ _ (by simp) (Nat.le_refl _))
theorem replaceL_miss {y z : List Nat} (hy : y ≠ []) {c : Nat} {r : List Nat} (h : ¬ y <+: c :: r) : replaceL y z (c :: r) = c :: replaceL y z r := by
  unfold replaceL
  show (if y.isPrefixOf (c :: r) = true then _ else c :: repl y z r.length r) = _
  rw [if_neg (by rw [List.isPrefixOf_iff_prefix]; exact h)]

theorem replaceL_skip {y z : List Nat} (hy : y ≠ []) : ∀ (p l : List Nat), (∀ k, k < p.length → ¬ y <+: (p ++ l).drop k) → replaceL y z (p ++ l) = p ++ replaceL y z l
  | [], l, _ => rfl
  | c :: p, l, h => by
    rw [List.cons_append, replaceL_miss hy (by have := h 0 (by simp); simpa using this), replaceL_skip hy p l fun k hk => by have := h (k + 1) (by simpa using hk); simpa using this]
    rfl
theorem replaceL_free {y z : List Nat} (hy : y ≠ []) (l : List Nat) (h : ∀ k, k < l.length → ¬ y <+: l.drop k) : replaceL y z l = l := by
  have := replaceL_skip (z := z) hy l [] (by simpa using h)
  simpa [replaceL_nil] using this

theorem join_cons2 (z p q : Str) (r : List Str) : Str.join z (p :: q :: r) = p ++ z ++ Str.join z (q :: r) := rfl

theorem join_parts {a y z : List Nat} (hy : y ≠ []) : ∀ (cuts : List Nat) (i f : Nat), i ≤ a.length → StrLaws.ChainG (S a) (S y) (S a).length i cuts f → (∀ k, f ≤ k → ¬ StrLaws.At (S a) (S y) (S a).length k) →
    Str.join (S z) (StrLaws.partsFrom (S a) (S y).length i cuts) = S (replaceL y z (a.drop i))
  | [], i, f, hi, h, hn => by
    have e : f = i := h
    subst e
    show strSub (S a) f (S a).length = _
    have : strSub (S a) f (S a).length = S (a.drop f) := by
      rw [S_of (strSub ..), StrLaws.strSub_toList, S_toList, S_length, List.take_of_length_le (by simp)]
    rw [this]
    congr 1
    refine (replaceL_free hy _ fun k hk hp => hn (f + k) (Nat.le_add_right ..) (at_iff.mpr ⟨?_, by rw [← List.drop_drop]; exact hp⟩)).symm
    have := hp.length_le
    rw [List.length_drop, List.length_drop] at this
    rw [List.length_drop] at hk
    have : 0 < y.length := List.length_pos_iff.mpr hy
    omega
  | c :: r, i, f, hi, ⟨h1, h2, h3, h4⟩, hn => by
    obtain ⟨hc, hp⟩ := at_iff.mp h2
    have hl := S_length y
    obtain ⟨p, q, e⟩ := StrLaws.partsFrom_ne (S a) (S y).length (c + (S y).length) r
    have ih := join_parts (z := z) hy r (c + (S y).length) f (by rw [hl]; omega) h4 hn
    show Str.join (S z) (strSub (S a) i c :: StrLaws.partsFrom (S a) (S y).length (c + (S y).length) r) = _
    rw [e, join_cons2, ← e, ih]
    have e1 : strSub (S a) i c = S ((a.drop i).take (c - i)) := by rw [S_of (strSub ..), StrLaws.strSub_toList, S_toList]
    rw [e1, S_append, S_append]
    congr 1
    have e2 : a.drop i = (a.drop i).take (c - i) ++ (y ++ a.drop (c + y.length)) := by
      conv => lhs; rw [← List.take_append_drop (c - i) (a.drop i)]
      congr 1
      rw [List.drop_drop, show i + (c - i) = c from by omega]
      obtain ⟨t, ht⟩ := hp
      rw [← ht]
      congr 1
      have := congrArg (List.drop y.length) ht
      rw [List.drop_left, List.drop_drop] at this
      exact this
    conv => rhs; rw [e2]
    rw [hl, replaceL_skip hy, replaceL_hit hy, List.append_assoc]
    intro k hk hpre
    rw [← e2, List.drop_drop] at hpre
    rw [List.length_take, List.length_drop] at hk
    refine h3 (i + k) (by omega) (by omega) (at_iff.mpr ⟨?_, hpre⟩)
    omega

theorem replace_S {a y z : List Nat} (hy : y ≠ []) : Txt.replace (S a) (S y) (S z) = S (replaceL y z a) := by
  have hl : 1 ≤ (S y).length := by rw [S_length]; exact List.length_pos_iff.mpr hy
  obtain ⟨f, hG, hn⟩ := StrLaws.occ_tight (S a) (S y) hl
  unfold Txt.replace
  split
  · rename_i hc
    rw [Bool.or_eq_true, Bool.and_eq_true] at hc
    rcases hc with hc | ⟨hc, _⟩
    · rw [List.isEmpty_iff] at hc
      rw [hc] at hG
      have e : f = 0 := hG
      subst e
      congr 1
      refine (replaceL_free hy _ fun k hk hp => hn k (Nat.zero_le _) (at_iff.mpr ⟨?_, hp⟩)).symm
      have := hp.length_le
      rw [List.length_drop] at this
      omega
    · rw [beq_iff_eq] at hc; omega
  · rw [StrLaws.glued_eq_join, StrLaws.partsBetween_eq, join_parts hy _ 0 f (Nat.zero_le _) hG hn, List.drop_zero]
end Mine
end

section
open PySem PySem.Builtin PySem.Builtin.Str
set_option linter.unusedVariables false
namespace Mine

noncomputable def clampN (n : Nat) (v : Option Int) (d : Nat) : Nat := match v with
  | none => d
  | some i => min (if i < 0 then i + n else i).toNat n

theorem clampN_le {n d : Nat} {v : Option Int} (h : d ≤ n) : clampN n v d ≤ n := by
  cases v with
  | none => exact h
  | some i => exact Nat.min_le_right ..

noncomputable def cutL {α : Type} (x : List α) (l u : Option Int) : List α := (x.take (clampN x.length u x.length)).drop (clampN x.length l 0)

theorem clip_eq (n : Nat) (i : Int) : max 0 (min (if i < 0 then i + (n : Int) else i) (n : Int)) = ((min (if i < 0 then i + (n : Int) else i).toNat n : Nat) : Int) := by
  generalize (if i < 0 then i + (n : Int) else i) = x
  omega

theorem sliceRange_nat (a b : Nat) : sliceRange (a : Int) (b : Int) 1 = (List.range (b - a)).map (a + ·) := sliceRange_one a b

theorem bounds_eq (l u : Option Int) (n : Nat) : (sliceBounds l u none n).1 = (clampN n l 0 : Nat) ∧ (sliceBounds l u none n).2.1 = (clampN n u n : Nat) ∧ (sliceBounds l u none n).2.2 = 1 := by
  refine ⟨?_, ?_, rfl⟩
  · cases l with
    | none => rfl
    | some i => simp [sliceBounds, clampN, clip_eq]
  · cases u with
    | none => rfl
    | some i => simp [sliceBounds, clampN, clip_eq]

theorem strIdx_eq (l u : Option Int) (n : Nat) : strSliceIndices l u 1 n = (List.range (clampN n u n - clampN n l 0)).map (clampN n l 0 + ·) := by
  rw [← sliceRange_nat]
  have b := bounds_eq l u n
  rw [← b.1, ← b.2.1, ← b.2.2]
  cases l <;> cases u <;> rfl

theorem pick_cut {α : Type} (x : List α) (a b : Nat) (hb : b ≤ x.length) : ((List.range (b - a)).map (a + ·)).filterMap (x[·]?) = (x.take b).drop a := by
  by_cases h : a ≤ b
  · rw [StrLaws.picks x (b - a) a (by omega), List.drop_take]
  · have : b - a = 0 := by omega
    rw [this, List.drop_eq_nil_of_le (by simp; omega)]
    rfl

theorem slice_S (x : List Nat) (l u : Option Int) : Txt.slice (S x) l u = S (cutL x l u) := by
  have hb : clampN x.length u x.length ≤ x.length := clampN_le (Nat.le_refl _)
  have e : (strSliceIndices l u 1 (S x).length).filterMap ((S x).cps[·]?) = cutL x l u := by
    rw [strIdx_eq, S_length]
    have := pick_cut x (clampN x.length l 0) (clampN x.length u x.length) hb
    simpa [S, cutL] using this
  unfold Txt.slice
  split
  · rename_i h
    rw [Bool.and_eq_true, beq_iff_eq] at h
    have h2 := beq_iff_eq.mp h.2
    rw [strIdx_eq, S_length, List.length_map, List.length_range] at h2
    have h3 : clampN x.length l 0 ≤ x.length := clampN_le (Nat.zero_le _)
    by_cases hz : x.length = 0
    · have : x = [] := List.eq_nil_of_length_eq_zero hz
      subst this
      simp [cutL]
    · have ha : clampN x.length l 0 = 0 := by omega
      have hb' : clampN x.length u x.length = x.length := by omega
      unfold cutL
      rw [ha, hb', List.take_length, List.drop_zero]
  · rw [e]; rfl

theorem slicePick_cut (x : List Value) (l u : Option Int) : slicePick x.toArray l u none = (cutL x l u).toArray := by
  unfold slicePick
  have b := bounds_eq l u x.toArray.size
  rw [b.1, b.2.1, b.2.2, sliceRange_nat]
  have hs : x.toArray.size = x.length := by simp
  rw [hs]
  congr 1
  have := pick_cut x (clampN x.length l 0) (clampN x.length u x.length) (clampN_le (Nat.le_refl _))
  simpa [cutL] using this

theorem cut_to {α : Type} (x : List α) (n : Nat) : cutL x none (some (n : Int)) = x.take n := by
  have : ¬ ((n : Int) < 0) := by omega
  simp only [cutL, clampN, this, if_false, Int.toNat_natCast, List.drop_zero]
  by_cases h : n ≤ x.length
  · rw [Nat.min_eq_left h]
  · rw [Nat.min_eq_right (by omega), List.take_length, List.take_of_length_le (by omega)]
theorem cut_from {α : Type} (x : List α) (n : Nat) : cutL x (some (n : Int)) none = x.drop n := by
  have : ¬ ((n : Int) < 0) := by omega
  simp only [cutL, clampN, this, if_false, Int.toNat_natCast, List.take_length]
  by_cases h : n ≤ x.length
  · rw [Nat.min_eq_left h]
  · rw [Nat.min_eq_right (by omega), List.drop_length, List.drop_eq_nil_of_le (by omega)]
theorem cut_both {α : Type} (x : List α) (n m : Nat) : cutL x (some (n : Int)) (some (m : Int)) = (x.take m).drop n := by
  have h1 : ¬ ((n : Int) < 0) := by omega
  have h2 : ¬ ((m : Int) < 0) := by omega
  simp only [cutL, clampN, h1, h2, if_false, Int.toNat_natCast]
  have e1 : x.take (min m x.length) = x.take m := by
    by_cases h : m ≤ x.length
    · rw [Nat.min_eq_left h]
    · rw [Nat.min_eq_right (by omega), List.take_length, List.take_of_length_le (by omega)]
  rw [e1]
  by_cases h : n ≤ x.length
  · rw [Nat.min_eq_left h]
  · rw [Nat.min_eq_right (by omega), List.drop_eq_nil_of_le (by simp; omega), List.drop_eq_nil_of_le (by simp; omega)]
theorem cut_butlast {α : Type} (x : List α) : cutL x none (some (-1)) = x.dropLast := by
  simp only [cutL, clampN, List.drop_zero]
  rw [if_pos (by omega), List.dropLast_eq_take]
  congr 1
  omega
theorem cut_last {α : Type} (x : List α) : cutL x (some (-1)) none = x.drop (x.length - 1) := by
  simp only [cutL, clampN, List.take_length]
  rw [if_pos (by omega)]
  congr 1
  omega
end Mine
end

section
open PySem PySem.Builtin PySem.Builtin.Str
set_option linter.unusedVariables false
namespace Mine

/-! prefixes, suffixes, single signs -/
theorem startswith_S (a b : List Nat) : Txt.startswith (S a) (S b) = b.isPrefixOf a := by
  unfold Txt.startswith
  rw [Bool.eq_iff_iff, Bool.and_eq_true, decide_eq_true_eq, List.isPrefixOf_iff_prefix]
  have := at_iff (a := a) (b := b) (i := 0)
  unfold StrLaws.At at this
  rw [List.drop_zero] at this
  rw [S_length, S_length] at *
  constructor
  · rintro ⟨h1, h2⟩; exact (this.mp ⟨h1, h2⟩).2
  · intro h; exact this.mpr ⟨by have := h.length_le; omega, h⟩
theorem startswith_one (a : List Nat) (c : Nat) : Txt.startswith (S a) (S [c]) = (a.head? == some c) := by
  rw [startswith_S]
  cases a with
  | nil => rfl
  | cons d r => simp [List.isPrefixOf, Bool.beq_comm]
theorem endswith_one (a : List Nat) (c : Nat) : Txt.endswith (S a) (S [c]) = (a.getLast? == some c) := by
  unfold Txt.endswith
  rw [StrLaws.subAt_eq, S_length, S_length, S_toList, S_toList]
  rcases List.eq_nil_or_concat a with rfl | ⟨b, d, rfl⟩
  · rfl
  · simp [Bool.beq_comm]

/-! the last place of a sign: (up to and with it, behind it) -/
noncomputable def cutLast (c : Nat) : List Nat → List Nat × List Nat
  | [] => ([], [])
  | d :: r => if (cutLast c r).1.isEmpty then (if d = c then ([d], r) else ([], d :: r)) else (d :: (cutLast c r).1, (cutLast c r).2)

theorem cutLast_free {c : Nat} : ∀ {a : List Nat}, c ∉ a → cutLast c a = ([], a)
  | [], _ => rfl
  | d :: r, h => by
    have ih := cutLast_free (c := c) (a := r) fun m => h (.tail _ m)
    have hd : d ≠ c := fun e => h (e ▸ .head _)
    simp [cutLast, ih, hd]
theorem cutLast_at {c : Nat} : ∀ (p : List Nat) {q : List Nat}, c ∉ q → cutLast c (p ++ c :: q) = (p ++ [c], q)
  | [], q, h => by simp [cutLast, cutLast_free h]
  | d :: p, q, h => by
    have ih := cutLast_at p h
    simp [cutLast, ih]
theorem last_split {c : Nat} : ∀ {a : List Nat}, c ∈ a → ∃ p q, a = p ++ c :: q ∧ c ∉ q
  | d :: r, h => by
    by_cases hr : c ∈ r
    · obtain ⟨p, q, e, hq⟩ := last_split hr
      exact ⟨d :: p, q, by rw [e]; rfl, hq⟩
    · rcases List.mem_cons.mp h with rfl | h
      · exact ⟨[], r, rfl, hr⟩
      · exact absurd h hr
theorem cutLast_app (c : Nat) (a : List Nat) : (cutLast c a).1 ++ (cutLast c a).2 = a := by
  by_cases h : c ∈ a
  · obtain ⟨p, q, rfl, hq⟩ := last_split h
    rw [cutLast_at p hq]; simp
  · rw [cutLast_free h]; rfl

theorem at_one {a : List Nat} {c i : Nat} : StrLaws.At (S a) (S [c]) (S a).length i ↔ a[i]? = some c := StrLaws.subAt_one (S a) c i

theorem rfind_one (a : List Nat) (c : Nat) : Txt.rfind (S a) (S [c]) = ((cutLast c a).1.length : Int) - 1 := by
  unfold Txt.rfind
  rcases StrLaws.last_spec (S a) (S [c]) with ⟨e, h⟩ | ⟨i, e, h1, h2⟩
  · rw [e]
    have hf : c ∉ a := fun hm => by
      obtain ⟨i, hi⟩ := List.getElem?_of_mem hm
      exact h i (at_one.mpr hi)
    rw [cutLast_free hf]; rfl
  · rw [e]
    have h1' := at_one.mp h1
    obtain ⟨p, q, ea, hq⟩ := last_split (List.mem_of_getElem? h1')
    subst ea
    rw [cutLast_at p hq]
    have hi : i = p.length := by
      rcases Nat.lt_trichotomy i p.length with hlt | heq | hgt
      · exact absurd (at_one.mpr (by simp)) (h2 p.length hlt)
      · exact heq
      · rw [List.getElem?_append_right (by omega)] at h1'
        obtain ⟨k, hk⟩ : ∃ k, i - p.length = k + 1 := ⟨i - p.length - 1, by omega⟩
        rw [hk, List.getElem?_cons_succ] at h1'
        exact absurd (List.mem_of_getElem? h1') hq
    rw [hi]; simp

/-! strips -/
noncomputable def rtrim (g : Nat → Bool) (a : List Nat) : List Nat := (a.reverse.dropWhile g).reverse
noncomputable def trim (g : Nat → Bool) (a : List Nat) : List Nat := rtrim g (a.dropWhile g)
theorem rtrim_take (g : Nat → Bool) (a : List Nat) : a.take (a.length - (a.reverse.takeWhile g).length) = rtrim g a := by
  have h := List.takeWhile_append_dropWhile (p := g) (l := a.reverse)
  have e : a = (a.reverse.dropWhile g).reverse ++ (a.reverse.takeWhile g).reverse := by
    rw [← List.reverse_append, h, List.reverse_reverse]
  have hl : a.length = (a.reverse.dropWhile g).length + (a.reverse.takeWhile g).length := by
    have := congrArg List.length e; simpa using this
  unfold rtrim
  conv => lhs; arg 2; rw [e]
  rw [hl, Nat.add_sub_cancel, List.take_left' (by simp)]
theorem drop_takeWhile (g : Nat → Bool) (a : List Nat) : a.drop (a.takeWhile g).length = a.dropWhile g := by
  have h := List.takeWhile_append_dropWhile (p := g) (l := a)
  conv => lhs; arg 2; rw [← h]
  rw [List.drop_left]
theorem takeWhile_len_le (g : Nat → Bool) (a : List Nat) : (a.takeWhile g).length ≤ a.length := by
  have h := congrArg List.length (List.takeWhile_append_dropWhile (p := g) (l := a))
  rw [List.length_append] at h; omega

theorem stripBy_rt (g : Nat → Bool) (a : List Nat) : Txt.stripBy g false true (S a) = S (rtrim g a) := by
  have key : stripped g false true (S a) = S (rtrim g a) := by
    unfold stripped stripLo stripHi
    simp only [Bool.false_eq_true, if_false, if_true]
    rw [S_of (strSub ..), StrLaws.strSub_toList, S_toList, S_length, List.drop_zero, Nat.sub_zero, rtrim_take]
  unfold Txt.stripBy
  split
  · rename_i h
    unfold stripSame stripLo stripHi at h
    simp only [Bool.false_eq_true, if_false, if_true, Bool.and_eq_true, beq_iff_eq, S_toList, S_length, List.drop_zero] at h
    have := rtrim_take g a
    rw [h.2, List.take_length] at this
    rw [← this]
  · exact key
theorem stripBy_both (g : Nat → Bool) (a : List Nat) : Txt.stripBy g true true (S a) = S (trim g a) := by
  have hd := drop_takeWhile g a
  have hle := takeWhile_len_le g a
  have key : stripped g true true (S a) = S (trim g a) := by
    unfold stripped stripLo stripHi
    simp only [if_true]
    rw [S_of (strSub ..), StrLaws.strSub_toList, S_toList, S_length, hd]
    have e : a.length - ((a.dropWhile g).reverse.takeWhile g).length - (a.takeWhile g).length = (a.dropWhile g).length - ((a.dropWhile g).reverse.takeWhile g).length := by
      have : (a.dropWhile g).length = a.length - (a.takeWhile g).length := by rw [← hd, List.length_drop]
      omega
    rw [e, rtrim_take]
    rfl
  unfold Txt.stripBy
  split
  · rename_i h
    unfold stripSame stripLo stripHi at h
    simp only [if_true, Bool.and_eq_true, beq_iff_eq, S_toList, S_length] at h
    rw [hd] at h
    have h0 : a.dropWhile g = a := by
      have := hd; rw [h.1, List.drop_zero] at this; exact this.symm
    have := rtrim_take g a
    rw [h0] at h
    rw [h.2, List.take_length] at this
    unfold trim
    rw [h0, ← this]
  · exact key
theorem rstrip_one (a : List Nat) (c : Nat) : Txt.rstripChars (S a) (S [c]) = S (rtrim (· == c) a) := by
  unfold Txt.rstripChars
  have : (S [c]).cps.contains = (· == c) := by funext d; rw [Bool.eq_iff_iff]; simp [S]
  rw [this, stripBy_rt]
theorem strip_S (a : List Nat) : Txt.strip (S a) = S (trim Unicode.isSpace a) := stripBy_both _ _

/-! split by a sign, join -/
noncomputable def splitC (c : Nat) : List Nat → List (List Nat)
  | [] => [[]]
  | d :: r => if d = c then [] :: splitC c r else match splitC c r with
    | [] => [[d]]
    | w :: ws => (d :: w) :: ws
theorem splitC_ne (c : Nat) : ∀ a, splitC c a ≠ []
  | [] => by simp [splitC]
  | d :: r => by
    unfold splitC
    split
    · simp
    · split <;> simp
theorem splitC_free {c : Nat} : ∀ {a : List Nat}, c ∉ a → splitC c a = [a]
  | [], _ => rfl
  | d :: r, h => by
    have ih := splitC_free (c := c) (a := r) fun m => h (.tail _ m)
    have hd : d ≠ c := fun e => h (e ▸ .head _)
    simp [splitC, ih, hd]
theorem splitC_at {c : Nat} : ∀ (p : List Nat) {q : List Nat}, c ∉ p → splitC c (p ++ c :: q) = p :: splitC c q
  | [], q, _ => by simp [splitC]
  | d :: p, q, h => by
    have ih := splitC_at p (q := q) fun m => h (.tail _ m)
    have hd : d ≠ c := fun e => h (e ▸ .head _)
    simp [splitC, ih, hd]

noncomputable def joinL (z : List Nat) : List (List Nat) → List Nat
  | [] => []
  | [x] => x
  | x :: y :: r => x ++ z ++ joinL z (y :: r)
theorem join_S (z : List Nat) : ∀ ts : List (List Nat), Str.join (S z) (ts.map S) = S (joinL z ts)
  | [] => rfl
  | [x] => rfl
  | x :: y :: r => by
    have ih := join_S z (y :: r)
    show S x ++ S z ++ Str.join (S z) ((y :: r).map S) = _
    rw [ih, S_append, S_append]; rfl
theorem txtjoin_S (z : List Nat) (ts : List (List Nat)) : Txt.join (S z) (ts.map S) = S (joinL z ts) := by
  unfold Txt.join
  rw [StrLaws.glued_eq_join, join_S]

theorem split_join_unique {c : Nat} : ∀ {ws : List (List Nat)}, ws ≠ [] → (∀ w ∈ ws, c ∉ w) → splitC c (joinL [c] ws) = ws
  | [], h, _ => absurd rfl h
  | [x], _, h => splitC_free (h x (.head _))
  | x :: y :: r, _, h => by
    show splitC c (x ++ [c] ++ joinL [c] (y :: r)) = _
    rw [List.append_assoc, List.singleton_append, splitC_at x (h x (.head _)), split_join_unique (by simp) fun w hw => h w (.tail _ hw)]

theorem split_S (a : List Nat) (c : Nat) : Txt.split (S a) (S [c]) = (splitC c a).map S := by
  have h1 := StrLaws.join_split (S a) (S [c])
  have h2 : ∀ p ∈ Txt.split (S a) (S [c]), c ∉ p.cps.toList := StrLaws.split_free (S a) c
  generalize hP : Txt.split (S a) (S [c]) = P at *
  have hm : ∃ ws : List (List Nat), P = ws.map S := ⟨P.map (fun x => x.cps.toList), by
    rw [List.map_map]
    exact (List.map_id P).symm⟩
  obtain ⟨ws, rfl⟩ := hm
  rw [join_S, S_inj] at h1
  have hne : ws ≠ [] := by
    rintro rfl
    have : Txt.split (S a) (S [c]) ≠ [] := by
      unfold Txt.split
      split
      · simp
      · split
        · simp
        · rw [StrLaws.partsBetween_eq]
          obtain ⟨p, r, e⟩ := StrLaws.partsFrom_ne (S a) (S [c]).length 0 (occurrences (S a) (S [c]) 0 (S a).length ((S a).length + 1))
          rw [e]; simp
    exact this hP
  have := split_join_unique hne fun w hw => h2 (S w) (List.mem_map_of_mem hw)
  rw [h1] at this
  rw [this]
end Mine
end

section
open PySem PySem.W PySem.Calls PySem.Spec PyProof.Rows
set_option maxRecDepth 100000
set_option linter.unusedVariables false
namespace Mine

section
variable {prog : Program} {w : World} {A : Around} {E : Value → Shared → Prop} {s : Shared}
theorem kind_issub_nested : builtinKind "issubclass.nested" = none := by decide +kernel
theorem plain_issub_nested : plainId "issubclass.nested" = true := by decide +kernel
theorem args_issub_nested (a b c : Value) : argsOk "issubclass.nested" ⟨[a, b, c], []⟩ := by unfold argsOk; kernel_rfl
theorem issub_one {Q : Fin → Shared → Prop} {dep : Int} {tk : Tok} (hq : Q (.done (.ret (.bool true))) s) : wpAny (model prog w) A (Builtin.«issubclass.nested» ⟨[.type "str", .type "str", .int dep tk], []⟩) Q E s := by
  have hm : typeOf (.type "str") = pure (.type "type") := by kernel_rfl
  have hself : isSubtype (.type "str") (.type "str") = pure true := by rw [isSubtype_type]; kernel_rfl
  repeat (any_goals (first | assumption | (rw [hself]) | wp_step))
theorem issub_tup {Q : Fin → Shared → Prop} {tp : Addr} {tk : Tok} {cs : List Value} (hcs : cs = [.type "str", .type "bytes"]) (htp : s.heap.get? tp = some (tupOf cs)) (hq : Q (.done (.ret (.bool true))) s) :
    wpAny (model prog w) A (Builtin.«issubclass.nested» ⟨[.type "str", .ref tp, .int 0 tk], []⟩) Q E s := by
  obtain ⟨h, g, d, t, os⟩ := s
  have hT2 : (⟨h, g, d, t, os⟩ : Shared).TypeIs (.ref tp) "tuple" := ⟨_, htp, rfl⟩
  have f1 := F.isi_sub_tuple
  repeat (any_goals (first | assumption | wp_step))
  refine wpAny_arrayLoop ?_
  subst hcs
  simp only [Option.getD_some, List.toList_toArray]
  rw [List.forIn_cons]
  refine wpAny_bind (wpAny_bind (call_function_meets kind_issub_nested plain_issub_nested F.entry_issubclass_nested (args_issub_nested _ _ _) (S := fun _ R s => R (.ok (.ret (.bool true))) s) (fun _ _ _ _ _ hs => issub_one hs) ?_))
  show wpAny _ _ (truthy (.bool true) >>= _) _ _ _
  refine wpAny_bind (m := truthy (.bool true)) (wpAny_pure ?_)
  refine wpAny_bind (wpAny_pure (wpAny_pure (wpAny_pure ?_)))
  repeat (any_goals (first | assumption | wp_step))
theorem call_issub {Q : Value → Shared → Prop} {tp : Addr} (htp : s.heap.get? tp = some (tupOf [.type "str", .type "bytes"])) (hq : Q (.bool true) s) :
    wpAny (model prog w) A (call (.builtin "issubclass") [.type "str", .ref tp]) Q E s :=
  call_issubclass (S := fun _ R s => s.heap.get? tp = some (tupOf [.type "str", .type "bytes"]) ∧ R (.ok (.ret (.bool true))) s) (fun _ _ _ _ _ hs => issubclass_outer (issub_tup rfl hs.1 hs.2)) ⟨htp, hq⟩
end

section
variable {c : Cx} {vs : Vs} {nw : Nw} {Q : Value → Vs → Nw → Prop} {P : Bool → Vs → Nw → Prop} {a b : List Nat} {t u : Tok} {i j : Int}
theorem do_isi_str_bytes (h : Q (.bool false) vs nw) : Do c (call (.builtin "isinstance") [.str (S a) t, .type "bytes"]) Q vs nw := Do.mk fun pin s S => IsiPair.str_bytes (fun ht => ⟨_, _, S.toks ht, h⟩)
theorem do_type_str (h : Q (.type "str") vs nw) : Do c (call (.type "type") [.str (S a) t]) Q vs nw := Do.mk fun pin s S => call_type_of (typeIs_str _ _ _) (by decide +kernel) (fun _ => ⟨_, _, S, h⟩)
theorem do_issub {tp : Addr} (hh : Has c nw tp (tupOf [.type "str", .type "bytes"])) (h : Q (.bool true) vs nw) : Do c (call (.builtin "issubclass") [.type "str", .ref tp]) Q vs nw := Do.mk fun pin s S => call_issub (S.get hh).1 (fun _ => ⟨_, _, S, h⟩)

/-! texts -/
theorem do_S (l : List Nat) {x : Str} {k : Nat} {pos : Pos} (hx : x = S l) (h : ∀ t, Q (.str (S l) t) vs nw) : Do c (eval (.Constant (.str x) k pos) c.env) Q vs nw := by subst hx; exact do_str h
theorem add_ss (hsz : a.length + b.length ≤ 16777216) (h : ∀ t', Q (.str (S (a ++ b)) t') vs nw) : Do c (binaryOp .Add (.str (S a) t) (.str (S b) u)) Q vs nw := Do.mk fun pin s S =>
  add_str (fun t' k ht => ⟨_, _, S.toks ht, by rw [S_append]; exact h t'⟩) (by rw [S_length, S_length, sizeLine_eq]; exact hsz)
theorem iadd_ss (hsz : a.length + b.length ≤ 16777216) (h : ∀ t', Q (.str (S (a ++ b)) t') vs nw) : Do c (inplaceOp .Add (.str (S a) t) (.str (S b) u)) Q vs nw := Do.mk fun pin s S =>
  iadd_str (fun t' k ht => ⟨_, _, S.toks ht, by rw [S_append]; exact h t'⟩) (by rw [S_length, S_length, sizeLine_eq]; exact hsz)
theorem eq_ss (h : Q (.bool (a == b)) vs nw) : Do c (compareOp .Eq (.str (S a) t) (.str (S b) u)) Q vs nw := Do.mk fun pin s S => eq_str (fun _ => ⟨_, _, S, by rw [S_beq]; exact h⟩)
theorem ne_ss (h : Q (.bool (a != b)) vs nw) : Do c (compareOp .NotEq (.str (S a) t) (.str (S b) u)) Q vs nw := Do.mk fun pin s S => ne_str (fun _ => ⟨_, _, S, by rw [S_bne]; exact h⟩)
theorem len_s (hsz : a.length ≤ 16777216) (h : ∀ t', Q (.int a.length t') vs nw) : Do c (call (.builtin "len") [.str (S a) t]) Q vs nw := Do.mk fun pin s S =>
  len_str (by rw [S_length]; omega) (fun ht => ⟨_, _, S.toks ht, by rw [S_length]; exact h _⟩)
theorem truthy_s (hsz : a.length ≤ 16777216) (h : P (!a.isEmpty) vs nw) : Do c (truthy (.str (S a) t)) P vs nw := Do.mk fun pin s S =>
  PySem.P.truthy_str (by rw [S_length]; omega) (fun ht => ⟨_, _, S.toks ht, by
    have e : (((Mine.S a).length : Int) != 0) = !a.isEmpty := by rw [S_length]; cases a <;> simp <;> omega
    rw [e]; exact h⟩)
theorem m_startswith {ch : Nat} (h : Q (.bool (a.head? == some ch)) vs nw) : Do c (call (.builtin "str.startswith") [.str (S a) t, .str (S [ch]) u]) Q vs nw := Do.mk fun pin s S => SC.startswith (fun _ => ⟨_, _, S, by rw [startswith_one]; exact h⟩)
theorem m_endswith {ch : Nat} (h : Q (.bool (a.getLast? == some ch)) vs nw) : Do c (call (.builtin "str.endswith") [.str (S a) t, .str (S [ch]) u]) Q vs nw := Do.mk fun pin s S => SC.endswith (fun _ => ⟨_, _, S, by rw [endswith_one]; exact h⟩)
theorem m_rfind {ch : Nat} (h : ∀ t', Q (.int (((cutLast ch a).1.length : Int) - 1) t') vs nw) : Do c (call (.builtin "str.rfind") [.str (S a) t, .str (S [ch]) u]) Q vs nw := Do.mk fun pin s S =>
  SC.rfind (fun ht => ⟨_, _, S.toks ht, by rw [rfind_one]; exact h _⟩)
theorem m_rstrip {ch : Nat} (hsz : a.length ≤ 16777216) (h : ∀ t', Q (.str (S (rtrim (· == ch) a)) t') vs nw) : Do c (call (.builtin "str.rstrip") [.str (S a) t, .str (S [ch]) u]) Q vs nw := Do.mk fun pin s S =>
  SC.rstripChars (fun t' k ht => ⟨_, _, S.toks ht, by rw [rstrip_one]; exact h t'⟩) (by rw [S_length, sizeLine_eq]; exact hsz)

theorem tail_s {value slice : Expr} {o idx : Value} {ops : List Value} {Q' : Value → Shared → Prop} {w : World} {A : Around} {E : Value → Shared → Prop} {s : Shared} (h : ItemOn (MM w) A E o idx Q' s) (hs : subscripted slice false o idx = operate ops (getItem o idx)) :
    wpAny (MM w) A (subscriptTail value slice o idx) Q' E s := by
  obtain ⟨T, id, hl, hT, hg⟩ := h
  exact tail_any hT hl hg hs

theorem item_s {value slice : Expr} {n : Nat} {ch : Nat} (hi : i = n) (hn : a[n]? = some ch) (hsz : a.length ≤ 16777216) (h : ∀ t', Q (.str (S [ch]) t') vs nw)
    (hs : subscripted slice false (.str (S a) t) (.int i u) = operate [.str (S a) t, .int i u] (getItem (.str (S a) t) (.int i u)) := by with_unfolding_all rfl) :
    Do c (subscriptTail value slice (.str (S a) t) (.int i u)) Q vs nw := Do.mk fun pin s St => by
  have hlt : n < a.length := (List.getElem?_eq_some_iff.mp hn).1
  have hc : Txt.charAt (S a) i = some ch := by
    unfold Txt.charAt
    subst hi
    exact StrLaws.at_nonneg (by omega) (by simpa [Mine.S] using hn)
  refine tail_s (SB.item (by unfold fitsSsize; simp; omega) (by rw [hc]; rfl) (fun ht => ⟨_, _, St.toks ht, ?_⟩)) hs
  have : Txt.item (S a) i = S [ch] := by unfold Txt.item; rw [hc]; rfl
  rw [this]; exact h _
theorem item_s_last {value slice : Expr} {ch : Nat} (hn : a.getLast? = some ch) (hsz : a.length ≤ 16777216) (h : ∀ t', Q (.str (S [ch]) t') vs nw)
    (hs : subscripted slice false (.str (S a) t) (.int (-1) u) = operate [.str (S a) t, .int (-1) u] (getItem (.str (S a) t) (.int (-1) u)) := by with_unfolding_all rfl) :
    Do c (subscriptTail value slice (.str (S a) t) (.int (-1) u)) Q vs nw := Do.mk fun pin s St => by
  have hne : a ≠ [] := by rintro rfl; cases hn
  have hl : 0 < a.length := List.length_pos_iff.mpr hne
  have hc : Txt.charAt (S a) (-1) = some ch := by
    unfold Txt.charAt
    refine StrLaws.at_neg (by omega) (by rw [S_length]; omega) ?_
    rw [S_length, show ((-1 : Int) + (a.length : Int)).toNat = a.length - 1 from by omega]
    rw [List.getLast?_eq_getElem?] at hn
    simpa [Mine.S] using hn
  refine tail_s (SB.item (by decide) (by rw [hc]; rfl) (fun ht => ⟨_, _, St.toks ht, ?_⟩)) hs
  have : Txt.item (S a) (-1) = S [ch] := by unfold Txt.item; rw [hc]; rfl
  rw [this]; exact h _

/-- a slice of a text -/
theorem do_SliceS {value : Expr} {lower upper : Option Expr} {p pos : Pos} {R : Value → Vs → Nw → Prop}
    (h : Do c (eval value c.env) (fun o => Do c (evalPart lower c.env) (fun vl => Do c (evalPart upper c.env) (fun vu vs nw => ∃ (x : List Nat) (t : Tok) (l u : Option (Int × Tok)), o = .str (S x) t ∧ vl = partValue l ∧ vu = partValue u ∧ x.length ≤ 16777216 ∧
      ∀ t', R (.str (S (cutL x (l.map (·.1)) (u.map (·.1)))) t') vs nw))) vs nw) : Do c (eval (.Subscript value (.Slice lower upper none p) pos) c.env) R vs nw := Do.mk fun pin s St =>
  Subscript_ (wpAny_mono (h.use St) (fun o s₁ ⟨_, _, S₁, h₁⟩ => wpAny_Slice (wpAny_mono (h₁.use S₁) (fun vl s₂ ⟨_, _, S₂, h₂⟩ => wpAny_mono (h₂.use S₂) (fun vu s₃ ⟨vs₃, nw₃, S₃, x, t, l, u, e1, e2, e3, hsz, h₃⟩ => by
    subst e1 e2 e3
    refine wpAny_pure ?_
    refine tail_s (ops := [.ref s₃.heap.objs.size, .str (S x) t]) ?_ rfl
    refine ⟨"str", _, F.slot_str_getitem.lookup, typeIs_str _ _ _, wpAny_getItem_str_slice (l := l) (u := u) (st := none) ⟨_, Heap.get?_push_size _ rfl, rfl, rfl⟩ rfl ?_⟩
    have e : (sliceMade (S x) t l u none) = if ((1 : Int) == 1 && (Builtin.Str.strSliceIndices (l.map (·.1)) (u.map (·.1)) 1 (S x).length).length == (S x).length) = true then .val (.str (S x) t) else .str ⟨((Builtin.Str.strSliceIndices (l.map (·.1)) (u.map (·.1)) 1 (S x).length).filterMap ((S x).cps[·]?)).toArray⟩ := rfl
    rw [e]
    have hcut := slice_S x (l.map (·.1)) (u.map (·.1))
    have hlen := Txt.slice_le (S x) (l.map (·.1)) (u.map (·.1))
    have key : ∀ t' k, 1 ≤ k → ∃ vs' nw', Mine.St c pin vs' nw' { s₃ with heap := s₃.heap.push { cls := .type "slice", data := .fields #[partValue l, partValue u, .none] }, toks := k } ∧ R (.str (Txt.slice (S x) (l.map (·.1)) (u.map (·.1))) t') vs' nw' := fun t' k ht =>
      ⟨vs₃, nw₃, S₃.ext (fun b o e => Heap.get?_push_of_some _ e) ht, by rw [hcut]; exact h₃ t'⟩
    unfold Txt.slice at key hlen
    split
    · rename_i hc
      rw [if_pos hc] at key
      exact fun ht => key t _ ht
    · rename_i hc
      rw [if_neg hc] at key hlen
      exact ⟨Nat.le_trans hlen (by rw [S_length, sizeLine_eq]; exact hsz), fun ht => key _ _ ht⟩) fun _ _ x => x) fun _ _ x => x)) fun _ _ x => x)
theorem do_part0 {R : Value → Vs → Nw → Prop} (h : R .none vs nw) : Do c (evalPart none c.env) R vs nw := Do.pure h
theorem do_part {e : Expr} {R : Value → Vs → Nw → Prop} (h : Do c (eval e c.env) R vs nw) : Do c (evalPart (some e) c.env) R vs nw := h

/-! ints -/
theorem add_ii (h : ∀ t', Q (.int (i + j) t') vs nw) : Do c (binaryOp .Add (.int i t) (.int j u)) Q vs nw := Do.mk fun pin s S => add_int (fun ht => ⟨_, _, S.toks ht, h _⟩)
theorem iadd_ii (h : ∀ t', Q (.int (i + j) t') vs nw) : Do c (inplaceOp .Add (.int i t) (.int j u)) Q vs nw := Do.mk fun pin s S => iadd_int (fun ht => ⟨_, _, S.toks ht, h _⟩)
theorem isub_ii (h : ∀ t', Q (.int (i - j) t') vs nw) : Do c (inplaceOp .Sub (.int i t) (.int j u)) Q vs nw := Do.mk fun pin s S => AutoIntOps.isub_0 (fun ht => ⟨_, _, S.toks ht, h _⟩)
theorem sub_ii (h : ∀ t', Q (.int (i - j) t') vs nw) : Do c (binaryOp .Sub (.int i t) (.int j u)) Q vs nw := Do.mk fun pin s S => sub_int (fun ht => ⟨_, _, S.toks ht, h _⟩)
theorem mod_ii (hj : j ≠ 0) (h : ∀ t', Q (.int (i.fmod j) t') vs nw) : Do c (binaryOp .Mod (.int i t) (.int j u)) Q vs nw := Do.mk fun pin s S => mod_int hj (fun ht => ⟨_, _, S.toks ht, h _⟩)
theorem fdiv_ii (hj : j ≠ 0) (hl : j.natAbs.log2 < 9000) (h : ∀ t', Q (.int (i.fdiv j) t') vs nw) : Do c (binaryOp .FloorDiv (.int i t) (.int j u)) Q vs nw := Do.mk fun pin s S =>
  AutoIntOps.floordiv_1 (by simpa using hj) (by rw [PyProof.noPylong_of_log2 hl]; exact Bool.false_ne_true) (fun ht => ⟨_, _, S.toks ht, h _⟩)
theorem ifdiv_ii (hj : j ≠ 0) (hl : j.natAbs.log2 < 9000) (h : ∀ t', Q (.int (i.fdiv j) t') vs nw) : Do c (inplaceOp .FloorDiv (.int i t) (.int j u)) Q vs nw := Do.mk fun pin s S =>
  AutoIntOps.ifloordiv_1 (by simpa using hj) (by rw [PyProof.noPylong_of_log2 hl]; exact Bool.false_ne_true) (fun ht => ⟨_, _, S.toks ht, h _⟩)
theorem neg_i (h : ∀ t', Q (.int (-i) t') vs nw) : Do c (unaryOp .USub (.int i t)) Q vs nw := Do.mk fun pin s S => PySem.P.neg_int (fun ht => ⟨_, _, S.toks ht, h _⟩)
theorem lt_ii (h : Q (.bool (decide (i < j))) vs nw) : Do c (compareOp .Lt (.int i t) (.int j u)) Q vs nw := Do.mk fun pin s S => lt_int (fun _ => ⟨_, _, S, h⟩)
theorem gt_ii (h : Q (.bool (decide (j < i))) vs nw) : Do c (compareOp .Gt (.int i t) (.int j u)) Q vs nw := Do.mk fun pin s S => gt_int (fun _ => ⟨_, _, S, h⟩)
theorem truthy_none (h : P false vs nw) : Do c (truthy .none) P vs nw := Do.mk fun pin s S => wpAny_pure (fun _ => ⟨_, _, S, h⟩)
end
end Mine
end

section
open PySem PySem.W PySem.Calls PySem.Spec PyProof.Rows
set_option maxRecDepth 100000
set_option linter.unusedVariables false
namespace Mine
section
variable {c : Cx} {vs : Vs} {nw : Nw} {Q : Value → Vs → Nw → Prop} {a b : List Nat} {t u : Tok} {i j : Int}
theorem mul_S (ch n : Nat) : Txt.mul (S [ch]) (n : Int) = S (List.replicate n ch) := by
  unfold Txt.mul
  have fl : ∀ (k : Nat) (acc : Array Nat), (List.replicate k (S [ch]).cps).foldl (· ++ ·) acc = acc ++ (List.replicate k ch).toArray := by
    intro k
    induction k with
    | zero => intro acc; simp
    | succ k ih => intro acc; rw [List.replicate_succ, List.foldl_cons, ih]; apply Array.toList_inj.mp; simp [S, List.replicate_succ]
  rcases n with _ | _ | n
  · rfl
  · rfl
  · rw [if_neg (by omega), if_neg (by simp [S_length]; omega), Int.toNat_natCast, fl]
    simp [S]
theorem mul_ci {ch n : Nat} (hi : i = n) (hn : n ≤ 16777216) (h : ∀ t', Q (.str (S (List.replicate n ch)) t') vs nw) : Do c (binaryOp .Mult (.str (S [ch]) t) (.int i u)) Q vs nw := Do.mk fun pin s St => by
  subst hi
  refine SB.mul ⟨by simp; omega, fun h1 _ => ?_, fun h1 _ => ?_⟩ (fun t' k ht => ⟨_, _, St.toks ht, by rw [mul_S]; exact h t'⟩)
  · rw [S_length]
    have : (1 : Int) ≤ (2 ^ 63 - 1) / (n : Int) := by
      rw [Int.le_ediv_iff_mul_le (by omega)]; omega
    show ¬ ((1 : Int) > _)
    omega
  · rw [S_length]; unfold PySem.Builtin.Str.tooLong; rw [sizeLine_eq]; simp; omega

/-- a statement that goes on, by what holds behind it -/
theorem do_then {st : Stmt} {rest : List Stmt} {Q : Flow → Vs → Nw → Prop} (J : Vs → Nw → Prop) (h1 : Do c (exec st c.env) (fun f vs nw => f = .next ∧ J vs nw) vs nw) (h2 : ∀ vs nw, J vs nw → Do c (execs rest c.env) Q vs nw) :
    Do c (execs (st :: rest) c.env) Q vs nw := do_cons (h1.mono fun f vs nw ⟨e, hj⟩ => by subst e; exact h2 vs nw hj)
end
end Mine
end

section
open PySem PySem.W PySem.Calls PySem.Spec PyProof.Rows PySem.SeqAt
set_option maxRecDepth 100000
set_option linter.unusedVariables false
namespace Mine

inductive All2 {α β : Type} (R : α → β → Prop) : List α → List β → Prop
  | nil : All2 R [] []
  | cons {a : α} {b : β} {l : List α} {m : List β} : R a b → All2 R l m → All2 R (a :: l) (b :: m)
theorem All2.length_eq {α β : Type} {R : α → β → Prop} {l : List α} {m : List β} (h : All2 R l m) : l.length = m.length := by
  induction h with
  | nil => rfl
  | cons _ _ ih => simp [ih]
theorem All2.get {α β : Type} {R : α → β → Prop} {l : List α} {m : List β} (h : All2 R l m) : ∀ (k : Nat) (h1 : k < l.length) (h2 : k < m.length), R l[k] m[k] := by
  induction h with
  | nil => intro k h1; simp at h1
  | cons a _ ih =>
    intro k h1 h2
    cases k with
    | zero => exact a
    | succ k => exact ih k (by simpa using h1) (by simpa using h2)

theorem szl : sizeLine = 16777216 := sizeLine_eq

section
variable {c : Cx} {vs : Vs} {nw : Nw} {Q : Value → Vs → Nw → Prop} {P : Bool → Vs → Nw → Prop} {a b : List Nat} {t u : Tok} {i j : Int} {l m : Addr} {xs ys : List Value} {n n2 : Nat}

theorem isL {pin : Pin} {s : Shared} (S : St c pin vs nw s) (h : Has c nw l (lstOf xs n)) : s.heap.IsList l xs.toArray := ⟨_, (S.get h).1, rfl, n, rfl⟩
/-- a list, whatever else its object bears -/
noncomputable def HasL (c : Cx) (nw : Nw) (l : Addr) (xs : List Value) : Prop := ∃ o n, Has c nw l o ∧ o.cls = .type "list" ∧ o.data = .seq xs.toArray n
theorem isLs {pin : Pin} {s : Shared} (S : St c pin vs nw s) (h : HasL c nw l xs) : s.heap.IsList l xs.toArray := let ⟨o, n, h1, h2, h3⟩ := h; ⟨o, (S.get h1).1, h2, n, h3⟩
theorem isT {pin : Pin} {s : Shared} (S : St c pin vs nw s) (h : Has c nw l (tupOf xs)) : IsTup s.heap l xs.toArray := ⟨_, (S.get h).1, rfl, ⟨0, rfl⟩⟩

theorem len_L (h : Has c nw l (lstOf xs n)) (hsz : xs.length ≤ 16777216) (hq : ∀ t', Q (.int xs.length t') vs nw) : Do c (call (.builtin "len") [.ref l]) Q vs nw := Do.mk fun pin s S =>
  call_len_list (isL S h) (by simp; omega) (fun ht => ⟨_, _, S.toks ht, by simpa using hq _⟩)
theorem len_Lg (h : HasL c nw l xs) (hsz : xs.length ≤ 16777216) (hq : ∀ t', Q (.int xs.length t') vs nw) : Do c (call (.builtin "len") [.ref l]) Q vs nw := Do.mk fun pin s S =>
  call_len_list (isLs S h) (by simp; omega) (fun ht => ⟨_, _, S.toks ht, by simpa using hq _⟩)
theorem truthy_L (h : Has c nw l (lstOf xs n)) (hsz : xs.length ≤ 16777216) (hq : P (!xs.isEmpty) vs nw) : Do c (truthy (.ref l)) P vs nw := Do.mk fun pin s S =>
  wpAny_truthy_list (isL S h) (by simp; omega) (fun ht => ⟨_, _, S.toks ht, by
    have e : (!xs.toArray.isEmpty) = !xs.isEmpty := by cases xs <;> simp
    rw [e]; exact hq⟩)
theorem m_append {k : Nat} {x : Value} (h : nw[k]? = some (l, lstOf xs n)) (hsz : xs.length ≤ 16777216) (hq : Q .none vs (nw.set k (l, lstOf (xs ++ [x]) (n + 1)))) : Do c (call (.builtin "list.append") [.ref l, x]) Q vs nw := Do.mk fun pin s S =>
  append_at (S.own _ (List.mem_of_getElem? h)) (fun h' hs ho ht => ⟨_, _, S.upd h hs (by rw [ho]; simp) ht, hq⟩) (by rw [szl]; simpa using hsz)
theorem add_LL (h1 : Has c nw l (lstOf xs n)) (h2 : Has c nw m (lstOf ys n2)) (hsz : xs.length + ys.length ≤ 16777216) (hq : ∀ a, Q (.ref a) vs ((a, lstOf (xs ++ ys) 0) :: nw)) : Do c (binaryOp .Add (.ref l) (.ref m)) Q vs nw := Do.mk fun pin s S =>
  PySem.P.add_list (S.get h1).1 (S.get h2).1 (fun ht => ⟨_, _, by simpa using S.alloc (lstOf (xs ++ ys) 0) rfl ht, hq _⟩) (by rw [szl]; simpa using hsz)
theorem m_pop {k : Nat} {x : Value} (h : nw[k]? = some (l, lstOf (xs ++ [x]) n)) (hsz : xs.length < 16777216) (hq : Q x vs (nw.set k (l, lstOf xs (n + 1)))) : Do c (call (.builtin "list.pop") [.ref l]) Q vs nw := Do.mk fun pin s S => by
  have hg := S.own _ (List.mem_of_getElem? h)
  refine call_meets PySem.F.slot_list_pop ⟨_, hg, rfl⟩ PySem.F.entry_list_pop (PySem.F.args_list_pop_1 _) (MeetsSeq.list_pop_last l (xs ++ [x]).toArray n x (by simp) (by rw [szl]; simp; omega)) ⟨hg, fun ht => ⟨_, _, S.upd h (Heap.SameBut.update ..) ?_ ht, hq⟩⟩
  have q := PySem.IsL.update hg (fun xs' => xs'.eraseIdxIfInBounds ((xs ++ [x]).toArray.size - 1))
  have e : (xs ++ [x]).toArray.eraseIdxIfInBounds ((xs ++ [x]).toArray.size - 1) = xs.toArray := by
    simp [Array.eraseIdxIfInBounds, List.eraseIdx_append_of_length_le]
  rw [e] at q
  simpa using q
theorem extend_door' {a b : List Value} (h : a.length + b.length ≤ 16777216) : ¬(!a.toArray.isEmpty && Builtin.List.listTooLong (a.toArray.size + b.toArray.size)) = true := extend_door (by rw [szl]; simpa using h)
theorem m_extend_T {k : Nat} (h : nw[k]? = some (l, lstOf xs n)) (h2 : Has c nw m (tupOf ys)) (hne : ys ≠ []) (hsz : xs.length + ys.length ≤ 16777216) (hq : Q .none vs (nw.set k (l, lstOf (xs ++ ys) (n + 1)))) :
    Do c (call (.builtin "list.extend") [.ref l, .ref m]) Q vs nw := Do.mk fun pin s S => by
  have hg := S.own _ (List.mem_of_getElem? h)
  refine call_meets PySem.F.slot_list_extend ⟨_, hg, rfl⟩ PySem.F.entry_list_extend (PySem.F.args_list_extend_2 _ _) (PySem.AutoSeq1.list_extend_list_tuple_0 l xs.toArray n m ys.toArray 0 (extend_door' hsz) (by rw [szl]; simp; omega) (by rw [szl]; simp; omega)) ⟨hg, (S.get h2).1, fun ht => ⟨_, _, S.upd h (Heap.SameBut.update ..) ?_ ht, hq⟩⟩
  have q := PySem.IsL.update hg (fun x => x ++ ys.toArray)
  have hl : ¬ ys.length = 0 := by simpa using hne
  simpa [hl, hne] using q
theorem item_L {value slice : Expr} {k : Nat} {x : Value} (hi : i = k) (h : Has c nw l (lstOf xs n)) (hx : xs[k]? = some x) (hsz : xs.length ≤ 16777216) (hq : Q x vs nw)
    (hs : subscripted slice false (.ref l) (.int i u) = operate [.ref l, .int i u] (getItem (.ref l) (.int i u)) := by with_unfolding_all rfl) :
    Do c (subscriptTail value slice (.ref l) (.int i u)) Q vs nw := Do.mk fun pin s St => by
  subst hi
  have hlt : k < xs.length := (List.getElem?_eq_some_iff.mp hx).1
  exact tail_s ⟨"list", _, PySem.F.slot_list_getitem.lookup, (isL St h).typeIs, wpAny_getItem_list (isL St h) (by omega) (by omega) (by simpa using hx) (fun _ => ⟨_, _, St, hq⟩)⟩ hs
theorem item_L_last {value slice : Expr} {x : Value} (h : Has c nw l (lstOf (xs ++ [x]) n)) (hsz : xs.length < 16777216) (hq : Q x vs nw)
    (hs : subscripted slice false (.ref l) (.int (-1) u) = operate [.ref l, .int (-1) u] (getItem (.ref l) (.int (-1) u)) := by with_unfolding_all rfl) :
    Do c (subscriptTail value slice (.ref l) (.int (-1) u)) Q vs nw := Do.mk fun pin s St => by
  refine tail_s ⟨"list", _, PySem.F.slot_list_getitem.lookup, (isL St h).typeIs, wpAny_getItem_list_neg (isL St h) (by decide) ?_ (by decide) ?_ (fun _ => ⟨_, _, St, hq⟩)⟩ hs
  · simp; omega
  · have : ((-1 : Int) + (((xs ++ [x]).toArray.size : Nat) : Int)).toNat = xs.length := by simp; omega
    rw [this]; simp

/-! slices of lists -/
theorem do_SliceLg {value : Expr} {lower upper step : Option Expr} {p pos : Pos}
    (h : Do c (eval value c.env) (fun o => Do c (evalPart lower c.env) (fun vl => Do c (evalPart upper c.env) (fun vu => Do c (evalPart step c.env) (fun vst vs nw => ∃ l xs lo hi st, o = .ref l ∧ HasL c nw l xs ∧ IsPart vl lo ∧ IsPart vu hi ∧ IsPart vst st ∧ st ≠ some 0 ∧ xs.length ≤ 16777216 ∧
      ∀ a, Q (.ref a) vs ((a, lstOf (slicePick xs.toArray lo hi st).toList 0) :: nw))))) vs nw) : Do c (eval (.Subscript value (.Slice lower upper step p) pos) c.env) Q vs nw := Do.mk fun pin s St =>
  Subscript_ (wpAny_mono (h.use St) (fun o s₁ ⟨_, _, S₁, h₁⟩ => wpAny_Slice (wpAny_mono (h₁.use S₁) (fun vl s₂ ⟨_, _, S₂, h₂⟩ => wpAny_mono (h₂.use S₂) (fun vu s₃ ⟨_, _, S₃, h₃⟩ => wpAny_mono (h₃.use S₃) (fun vst s₄ ⟨vs₄, nw₄, S₄, l, xs, lo, hi, st, e1, hl, p1, p2, p3, h0, hsz, h₄⟩ => by
    subst e1
    have S₅ := S₄.ext (h' := s₄.heap.push { cls := .type "slice", data := .fields #[vl, vu, vst] }) (tk := s₄.toks) (fun b o e => Heap.get?_push_of_some _ e) S₄.tk
    obtain ⟨ops, hops⟩ : ∃ ops, subscripted (.Slice lower upper step p) false (.ref l) (.ref s₄.heap.objs.size) = operate ops (getItem (.ref l) (.ref s₄.heap.objs.size)) := by cases step <;> exact ⟨_, rfl⟩
    refine tail_s (ops := ops) ⟨"list", _, PySem.F.slot_list_getitem.lookup, (isLs S₅ hl).typeIs, wpAny_getItem_list_slice (isLs S₅ hl) (Heap.IsSliceOf.new ..) p1 p2 p3 h0 (fun ht => ⟨_, _, ?_, h₄ _⟩) (by rw [szl]; simpa using hsz)⟩ hops
    have := S₅.alloc (lstOf (slicePick xs.toArray lo hi st).toList 0) (tk := s₄.toks) rfl ht
    simpa using this) fun _ _ x => x) fun _ _ x => x) fun _ _ x => x)) fun _ _ x => x)

theorem do_SliceL {value : Expr} {lower upper step : Option Expr} {p pos : Pos}
    (h : Do c (eval value c.env) (fun o => Do c (evalPart lower c.env) (fun vl => Do c (evalPart upper c.env) (fun vu => Do c (evalPart step c.env) (fun vst vs nw => ∃ l xs n lo hi st, o = .ref l ∧ Has c nw l (lstOf xs n) ∧ IsPart vl lo ∧ IsPart vu hi ∧ IsPart vst st ∧ st ≠ some 0 ∧ xs.length ≤ 16777216 ∧
      ∀ a, Q (.ref a) vs ((a, lstOf (slicePick xs.toArray lo hi st).toList 0) :: nw))))) vs nw) : Do c (eval (.Subscript value (.Slice lower upper step p) pos) c.env) Q vs nw :=
  do_SliceLg (h.mono fun o vs nw h => h.mono fun vl vs nw h => h.mono fun vu vs nw h => h.mono fun vst vs nw ⟨l, xs, n, lo, hi, st, e, hl, r⟩ => ⟨l, xs, lo, hi, st, e, ⟨_, n, hl, rfl, rfl⟩, r⟩)

/-! plain items: numbers and texts -/
noncomputable def Is (v : Value) : Int ⊕ List Nat → Prop
  | .inl i => ∃ t, v = .int i t
  | .inr a => ∃ t, v = .str (S a) t
noncomputable def Iss : List Value → List (Int ⊕ List Nat) → Prop := All2 Is
noncomputable def Txs (vs : List Value) (ts : List (List Nat)) : Prop := All2 (fun v a => ∃ t, v = .str (S a) t) vs ts
theorem Txs.iss {vs : List Value} {ts : List (List Nat)} (h : Txs vs ts) : Iss vs (ts.map .inr) := by
  induction h with
  | nil => exact All2.nil
  | cons a _ ih => exact All2.cons a ih
theorem Txs.strs {vs : List Value} {ts : List (List Nat)} (h : Txs vs ts) : StrsAre vs (ts.map S) := by
  induction h with
  | nil => exact .nil
  | cons a _ ih => obtain ⟨t, rfl⟩ := a; exact .cons _ _ ih
theorem Txs.len {vs : List Value} {ts : List (List Nat)} (h : Txs vs ts) : vs.length = ts.length := h.length_eq
theorem Txs.app {vs ws : List Value} {ts us : List (List Nat)} (h : Txs vs ts) (h' : Txs ws us) : Txs (vs ++ ws) (ts ++ us) := by
  induction h with
  | nil => exact h'
  | cons a _ ih => exact All2.cons a ih
theorem Txs.snoc {vs : List Value} {ts : List (List Nat)} {a : List Nat} {t : Tok} (h : Txs vs ts) : Txs (vs ++ [.str (S a) t]) (ts ++ [a]) := h.app (All2.cons ⟨_, rfl⟩ All2.nil)
theorem Txs.nil : Txs [] [] := All2.nil
theorem Txs.get {vs : List Value} {ts : List (List Nat)} (h : Txs vs ts) {k : Nat} {v : Value} (e : vs[k]? = some v) : ∃ a t, ts[k]? = some a ∧ v = .str (S a) t := by
  induction h generalizing k with
  | nil => simp at e
  | cons a _ ih =>
    cases k with
    | zero => simp at e; subst e; obtain ⟨t, e⟩ := a; exact ⟨_, t, rfl, e⟩
    | succ k => simp at e; exact ih e
theorem Iss.app {vs ws : List Value} {ts us : List (Int ⊕ List Nat)} (h : Iss vs ts) (h' : Iss ws us) : Iss (vs ++ ws) (ts ++ us) := by
  induction h with
  | nil => exact h'
  | cons a _ ih => exact All2.cons a ih

theorem is_eq {A : Around} {s : Shared} {v w : Value} {x y : Int ⊕ List Nat} (hv : Is v x) (hw : Is w y) : EqAt A s v w (decide (x = y)) := by
  cases x <;> cases y <;> obtain ⟨t, rfl⟩ := hv <;> obtain ⟨u, rfl⟩ := hw
  · rename_i a b
    have e : decide ((Sum.inl a : Int ⊕ List Nat) = .inl b) = (a == b) := by rw [Bool.eq_iff_iff]; simp
    rw [e]; exact EqAt.int_int _ _ _ _
  · have e : ∀ (a : Int) (b : List Nat), decide ((Sum.inl a : Int ⊕ List Nat) = .inr b) = false := fun _ _ => by simp
    rw [e]; exact EqAt.int_str _ _ _ _
  · have e : ∀ (a : Int) (b : List Nat), decide ((Sum.inr b : Int ⊕ List Nat) = .inl a) = false := fun _ _ => by simp
    rw [e]; exact EqAt.str_int _ _ _ _
  · rename_i a b
    have e : decide ((Sum.inr a : Int ⊕ List Nat) = .inr b) = (S a == S b) := by rw [Bool.eq_iff_iff, S_beq]; simp
    rw [e]; exact EqAt.str_str _ _ _ _
theorem iss_all {X Y : List (Int ⊕ List Nat)} (hl : X.length = Y.length) : ((List.range X.length).all fun j => decide (X[j]? = Y[j]?)) = decide (X = Y) := by
  rw [Bool.eq_iff_iff, decide_eq_true_iff, List.all_eq_true]
  constructor
  · intro h
    refine List.ext_getElem? fun j => ?_
    by_cases hj : j < X.length
    · exact of_decide_eq_true (h j (List.mem_range.mpr hj))
    · rw [List.getElem?_eq_none (by omega), List.getElem?_eq_none (by omega)]
  · rintro rfl; simp
theorem iss_at {A : Around} {s : Shared} {X Y : List (Int ⊕ List Nat)} (hX : Iss xs X) (hY : Iss ys Y) : ∀ j (h1 : j < xs.toArray.size) (h2 : j < ys.toArray.size), EqAt A s xs.toArray[j] ys.toArray[j] (decide (X[j]? = Y[j]?)) := by
  intro j h1 h2
  simp at h1 h2
  have l1 : xs.length = X.length := All2.length_eq hX
  have l2 : ys.length = Y.length := All2.length_eq hY
  have g1 : X[j]? = some X[j] := List.getElem?_eq_getElem (by omega)
  have g2 : Y[j]? = some Y[j] := List.getElem?_eq_getElem (by omega)
  have e : decide (X[j]? = Y[j]?) = decide (X[j]'(by omega) = Y[j]'(by omega)) := by rw [g1, g2, Bool.eq_iff_iff]; simp
  rw [e]
  refine is_eq ?_ ?_
  · simpa using All2.get hX j h1 (by omega)
  · simpa using All2.get hY j h2 (by omega)
theorem eq_LL {X Y : List (Int ⊕ List Nat)} (h1 : Has c nw l (lstOf xs n)) (h2 : Has c nw m (lstOf ys n2)) (hX : Iss xs X) (hY : Iss ys Y) (hq : Q (.bool (decide (X = Y))) vs nw) : Do c (compareOp .Eq (.ref l) (.ref m)) Q vs nw := Do.mk fun pin s S => by
  have l1 : xs.length = X.length := All2.length_eq hX
  have l2 : ys.length = Y.length := All2.length_eq hY
  by_cases hl : xs.length = ys.length
  · refine eq_listAt (e := fun j => decide (X[j]? = Y[j]?)) (isL S h1) (isL S h2) (by simpa using hl) S.units (iss_at hX hY) (fun _ => ⟨_, _, S, ?_⟩)
    have := iss_all (X := X) (Y := Y) (by omega)
    rw [show xs.toArray.size = X.length from by simpa using l1, this]; exact hq
  · refine eq_list_lengthsAt (isL S h1) (isL S h2) (by simpa using hl) S.units (fun _ => ⟨_, _, S, ?_⟩)
    have : decide (X = Y) = false := by rw [decide_eq_false_iff_not]; rintro rfl; omega
    rw [this] at hq; exact hq
theorem ne_LL {X Y : List (Int ⊕ List Nat)} (h1 : Has c nw l (lstOf xs n)) (h2 : Has c nw m (lstOf ys n2)) (hX : Iss xs X) (hY : Iss ys Y) (hq : Q (.bool (!decide (X = Y))) vs nw) : Do c (compareOp .NotEq (.ref l) (.ref m)) Q vs nw := Do.mk fun pin s S => by
  have l1 : xs.length = X.length := All2.length_eq hX
  have l2 : ys.length = Y.length := All2.length_eq hY
  by_cases hl : xs.length = ys.length
  · refine RcNeAt.lists (e := fun j => decide (X[j]? = Y[j]?)) (isL S h1) (isL S h2) (by simpa using hl) S.units (iss_at hX hY) _ _ _ _ (fun _ => ⟨_, _, S, ?_⟩)
    have := iss_all (X := X) (Y := Y) (by omega)
    rw [show xs.toArray.size = X.length from by simpa using l1, this]; exact hq
  · refine RcNeAt.lists_lengths (isL S h1) (isL S h2) (by simpa using hl) S.units _ _ _ _ (fun _ => ⟨_, _, S, ?_⟩)
    have : decide (X = Y) = false := by rw [decide_eq_false_iff_not]; rintro rfl; omega
    rw [this] at hq; exact hq

/-! texts and lists -/
theorem m_join {z : List Nat} {ts : List (List Nat)} (h : Has c nw l (lstOf xs n)) (hx : Txs xs ts) (hok : (ts.map (·.length)).sum + ts.length * z.length ≤ 16777216) (hq : ∀ t', Q (.str (S (joinL z ts)) t') vs nw) :
    Do c (call (.builtin "str.join") [.str (S z) t, .ref l]) Q vs nw := Do.mk fun pin s St =>
  join_list (isL St h) (by simpa using hx.strs) (by
    have e : ((ts.map S).map (·.length)) = ts.map (·.length) := by rw [List.map_map]; exact List.map_congr_left fun a _ => S_length a
    rw [e, List.length_map, S_length]; exact hok) (fun t' k ht => ⟨_, _, St.toks ht, by rw [txtjoin_S]; exact hq t'⟩)
theorem txs_values : ∀ (k : Nat) (ts : List (List Nat)), Txs (strsFrom k (ts.map S)) ts
  | _, [] => All2.nil
  | k, a :: r => All2.cons ⟨_, rfl⟩ (txs_values (k + 1) r)
theorem m_split {ch : Nat} (hsz : a.length ≤ 16777000) (hq : ∀ l xs, Txs xs (splitC ch a) → Q (.ref l) vs ((l, lstOf xs 0) :: nw)) : Do c (call (.builtin "str.split") [.str (S a) t, .str (S [ch]) u]) Q vs nw := Do.mk fun pin s St => by
  have hy : ((S [ch]).length == 0) = false := rfl
  have key := split_S a ch
  have hsz' : (S a).length ≤ sizeLine := by rw [S_length, szl]; omega
  unfold Txt.split at key
  cases h1 : (decide ((S a).length < (S [ch]).length) || decide (Builtin.Str.strKind (S a) < Builtin.Str.strKind (S [ch])))
  · rw [if_neg (ne_true_of_eq_false h1)] at key
    cases hf : (Builtin.Str.occurrences (S a) (S [ch]) 0 (S a).length ((S a).length + 1)).isEmpty
    · rw [if_neg (ne_true_of_eq_false hf)] at key
      have hl2 : (Builtin.Str.partsBetween (S a) (Builtin.Str.occurrences (S a) (S [ch]) 0 (S a).length ((S a).length + 1)) (S [ch]).length).length ≤ sizeLine := by
        have := split_le (S a) (S [ch])
        unfold Txt.split at this
        rw [if_neg (ne_true_of_eq_false h1), if_neg (ne_true_of_eq_false hf)] at this
        have e := S_length a
        rw [szl]; omega
      refine call_meets PySem.F.slot_str_split (typeIs_str _ _ _) PySem.F.entry_str_split (PySem.F.args_str_split_2 _ _) (meets_str_split_sep (S a) (S [ch]) t u h1 hy hf hsz' hl2) ?_
      rw [key]
      exact fun ht => ⟨_, _, St.alloc (lstOf _ 0) rfl ht, hq _ _ (txs_values _ _)⟩
    · rw [if_pos hf] at key
      refine call_meets PySem.F.slot_str_split (typeIs_str _ _ _) PySem.F.entry_str_split (PySem.F.args_str_split_2 _ _) (meets_str_split_not_found (S a) (S [ch]) t u h1 hy hf) (fun ht => ⟨_, _, St.alloc (lstOf [.str (S a) t] 0) rfl ht, hq _ _ ?_⟩)
      have : splitC ch a = [a] := by
        have := congrArg (List.map fun x : Str => x.cps.toList) key
        simpa [S] using this.symm
      rw [this]; exact All2.cons ⟨_, rfl⟩ All2.nil
  · rw [if_pos h1] at key
    refine call_meets PySem.F.slot_str_split (typeIs_str _ _ _) PySem.F.entry_str_split (PySem.F.args_str_split_2 _ _) (meets_str_split_cannot_occur (S a) (S [ch]) t u h1) (fun ht => ⟨_, _, St.alloc (lstOf [.str (S a) t] 0) rfl ht, hq _ _ ?_⟩)
    have : splitC ch a = [a] := by
      have := congrArg (List.map fun x : Str => x.cps.toList) key
      simpa [S] using this.symm
    rw [this]; exact All2.cons ⟨_, rfl⟩ All2.nil
end
end Mine
end

section
open PySem PySem.W PySem.Calls PySem.Spec PyProof.Rows PySem.SeqAt
set_option maxRecDepth 100000
set_option linter.unusedVariables false
namespace Mine
section
variable {c : Cx} {vs : Vs} {nw : Nw} {Q : Value → Vs → Nw → Prop} {P : Bool → Vs → Nw → Prop} {a b : List Nat} {t u : Tok} {i j : Int} {l m : Addr} {xs ys : List Value} {n n2 : Nat}

/-! in -/
theorem in_cs {ch : Nat} (h : Q (.bool (decide (ch ∈ a))) vs nw) : Do c (compareOp .In (.str (S [ch]) u) (.str (S a) t)) Q vs nw := Do.mk fun pin s St => in_str (fun _ => ⟨_, _, St, by
  have e := StrLaws.found_one (S a) ch
  rw [show (⟨#[ch]⟩ : Str) = S [ch] from rfl] at e
  rw [e]; exact h⟩)
theorem nin_cs {ch : Nat} (h : Q (.bool (!decide (ch ∈ a))) vs nw) : Do c (compareOp .NotIn (.str (S [ch]) u) (.str (S a) t)) Q vs nw := Do.mk fun pin s St => notIn_str (fun _ => ⟨_, _, St, by
  have e := StrLaws.found_one (S a) ch
  rw [show (⟨#[ch]⟩ : Str) = S [ch] from rfl] at e
  rw [e]; exact h⟩)
theorem found_S (a b : List Nat) : (!(Builtin.Str.occurrences (S a) (S b) 0 (S a).length 1).isEmpty) = decide (b <:+: a) := by
  rw [Bool.eq_iff_iff, StrLaws.found_iff, decide_eq_true_iff]
  have h : ∀ i, (i + (S b).length ≤ (S a).length ∧ Builtin.Str.subAt (S a) (S b) i = true) ↔ i + b.length ≤ a.length ∧ b <+: a.drop i := fun i => at_iff (a := a) (b := b) (i := i)
  constructor
  · rintro ⟨i, hi⟩
    obtain ⟨-, r, hr⟩ := (h i).mp hi
    exact ⟨a.take i, r, by rw [List.append_assoc, hr, List.take_append_drop]⟩
  · rintro ⟨p, r, rfl⟩
    refine ⟨p.length, (h _).mpr ⟨by simp, ?_⟩⟩
    rw [List.append_assoc, List.drop_left]; exact List.prefix_append _ _
theorem nin_ss (h : Q (.bool (!decide (b <:+: a))) vs nw) : Do c (compareOp .NotIn (.str (S b) u) (.str (S a) t)) Q vs nw := Do.mk fun pin s St => notIn_str (fun _ => ⟨_, _, St, by rw [found_S]; exact h⟩)

noncomputable def digs : List Nat := [48, 49, 50, 51, 52, 53, 54, 55, 56, 57]
theorem idx_digs : ∀ k, k < 10 → Builtin.Str.occurrences (S digs) (S [48 + k]) 0 (S digs).length 1 = [k] := by
  intro k hk
  have h : ((List.range 10).all fun k => Builtin.Str.occurrences (S digs) (S [48 + k]) 0 (S digs).length 1 == [k]) = true := by decide +kernel
  exact beq_iff_eq.mp (List.all_eq_true.mp h k (List.mem_range.mpr hk))
theorem m_index {ch : Nat} (h0 : 48 ≤ ch) (h1 : ch ≤ 57) (h : ∀ t', Q (.int ((ch - 48 : Nat) : Int) t') vs nw) : Do c (call (.builtin "str.index") [.str (S digs) t, .str (S [ch]) u]) Q vs nw := Do.mk fun pin s St => by
  have e := idx_digs (ch - 48) (by omega)
  rw [show 48 + (ch - 48) = ch from by omega] at e
  exact SC.index e (fun ht => ⟨_, _, St.toks ht, h _⟩)

/-! replace, with its two literals -/
theorem do_replArgs {y z : Str} {k1 k2 : Nat} {p1 p2 pos : Pos} {R : List Value → Vs → Nw → Prop} (h : ∀ u v, u ≠ 0 → v ≠ 0 → u ≠ v → R [.str y u, .str z v] vs nw) :
    Do c (spliced (backTo pos (starEach [.Constant (.str y) k1 p1, .Constant (.str z) k2 p2] c.env))) R vs nw := Do.mk fun pin s St =>
  wpAny_items_cons (he := rfl) (wpAny_Constant_str (wpAny_items_cons (he := rfl) (wpAny_Constant_str (wpAny_items_nil (fun ht => ⟨_, _, St.toks ht, h _ _ (Nat.one_le_iff_ne_zero.mp St.tk) (by show s.toks + 1 ≠ 0; omega) (by show s.toks ≠ s.toks + 1; omega)⟩)))))
theorem m_replace {y z : List Nat} {v : Tok} (hu : u ≠ 0) (hv : v ≠ 0) (huv : u ≠ v) (hy : y ≠ []) (hyz : y ≠ z) (hx : a.length ≤ 1048576) (hz : z.length ≤ 14) (h : ∀ t', Q (.str (S (replaceL y z a)) t') vs nw) :
    Do c (call (.builtin "str.replace") [.str (S a) t, .str (S y) u, .str (S z) v]) Q vs nw := Do.mk fun pin s St =>
  SC.replaceW hu hv huv (by rw [S_beq]; simpa using hyz) (by rw [S_length]; exact hx) (by rw [S_length]; exact hz) (fun t' k ht => ⟨_, _, St.toks ht, by rw [replace_S hy]; exact h t'⟩)

/-! tuple targets -/
theorem do_unpackT {R : List Value → Vs → Nw → Prop} (h : Has c nw l (tupOf xs)) (hn : xs.length = n) (hq : R xs vs nw) : Do c (unpackItems (.ref l) n none) R vs nw := Do.mk fun pin s St => by
  have e := unpackItems_tuple (Q := fun a s' => 1 ≤ s'.toks → ∃ vs' nw', Mine.St c pin vs' nw' s' ∧ R a vs' nw') (E := fun _ _ => False) (prog := PR) (w := c.w) c.hh (isT St h) (fun h' hk ht => ⟨_, _, St.ext (fun b o e => hk b o (Nat.ne_of_lt (Heap.lt_size e)) e) ht, by simpa using hq⟩)
  rw [← hn]
  simpa using e
theorem do_unpackL {R : List Value → Vs → Nw → Prop} (h : Has c nw l (lstOf xs n2)) (hn : xs.length = n) (hq : R xs vs nw) : Do c (unpackItems (.ref l) n none) R vs nw := Do.mk fun pin s St => by
  have e := kun_itemsOf (Q := fun a s' => 1 ≤ s'.toks → ∃ vs' nw', Mine.St c pin vs' nw' s' ∧ R a vs' nw') (E := fun _ _ => False) (prog := PR) (w := c.w) c.hh (isL St h) (fun h' hk ht => ⟨_, _, St.ext (fun b o e => hk b o (Nat.ne_of_lt (Heap.lt_size e)) e) ht, by simpa using hq⟩)
  rw [← hn]
  simpa using e

theorem do_inOrder0 {R : Unit → Vs → Nw → Prop} (h : R () vs nw) : Do c (assignInOrder [] []) R vs nw := Do.pure h
theorem do_bindName {i : Nat} {x : Str} {v : Value} {R : Unit → Vs → Nw → Prop} (hk : c.ks[i]? = some x) (h : R () (vs.set i (some v)) nw) : Do c (bindName c.env x v) R vs nw := Do.mk fun pin s St => by
  unfold bindName
  refine wpAny_bind (wpAny_holding (wpAny_point ?_))
  refine wpAny_bind (wpAny_mono ((do_storeName (Q := fun _ vs' nw' => R () vs' nw') hk h).use St) (fun _ s' ⟨_, _, S', h'⟩ => wpAny_point (fun _ => ⟨_, _, S', h'⟩)) fun _ _ x => x)
theorem do_inOrder {f : Value → Sem Unit} {fs : List (Value → Sem Unit)} {v : Value} {R : Unit → Vs → Nw → Prop} (h : Do c (f v) (fun _ => Do c (assignInOrder fs xs) R) vs nw) : Do c (assignInOrder (f :: fs) (v :: xs)) R vs nw := Do.mk fun pin s St =>
  wpAny_assignInOrder_more (wpAny_mono (h.use St) (fun _ s' ⟨_, _, S', h'⟩ => h'.run pin s' S') fun _ _ x => x)
theorem do_assignName {i : Nat} {x : Str} {p : Pos} {v : Value} {R : Unit → Vs → Nw → Prop} (hk : c.ks[i]? = some x) (h : R () (vs.set i (some v)) nw) : Do c (assign (.Name x p) c.env v) R vs nw := Do.mk fun pin s St =>
  wpAny_assign_Name (wpAny_mono ((do_storeName (Q := fun _ vs' nw' => R () vs' nw') hk h).use St) (fun _ s' h' _ => h') fun _ _ x => x)
/-- unpacking into targets -/
theorem do_assignT {elts : List Expr} {k : Nat} {pos : Pos} {va : Value} {R : Unit → Vs → Nw → Prop}
    (h : Do c (unpackItems va (assignEach elts c.env).length none) (fun items => Do c (assignInOrder ((assignEach elts c.env).map (·.2)) items) R) vs nw) (hf : (assignEach elts c.env).findIdx? (·.1) = none := by rfl) : Do c (assign (.Tuple elts k pos) c.env va) R vs nw := Do.mk fun pin s St => by
  rw [assign_Tuple]
  refine wpAny_bind (wpAny_standAt ?_)
  unfold unpack
  rw [hf]
  exact wpAny_bind (wpAny_holding (wpAny_mono (h.use St) (fun items s' ⟨_, _, S', h'⟩ => h'.run pin s' S') fun _ _ x => x))
theorem do_AssignTuple {elts : List Expr} {k : Nat} {tpos pos : Pos} {value : Expr} {Q : Flow → Vs → Nw → Prop}
    (h : Do c (eval value c.env) (fun v => Do c (assign (.Tuple elts k tpos) c.env v) (fun _ => Q .next)) vs nw)
    (hs : swapsWithSole [.Tuple elts k tpos] value pos.line c.env = pure false := by rfl) (hw : swappedStores [.Tuple elts k tpos] value c.env = pure none := by rfl) :
    Do c (exec (.Assign [.Tuple elts k tpos] value pos) c.env) Q vs nw := Do.mk fun pin s St =>
  Assign_Tuple (wpAny_mono (h.use St) (fun v s' ⟨_, _, S', h'⟩ => h'.run pin s' S') fun _ _ x => x) hs hw
theorem do_AssignSwap (names : List Str) {elts : List Expr} {k : Nat} {tpos pos : Pos} {value : Expr} {Q : Flow → Vs → Nw → Prop}
    (h : Do c (eval value c.env) (fun v => Do c (unpackItems v names.length none) (fun items => Do c (assignInOrder (names.reverse.map fun n => bindName c.env n) items.reverse) (fun _ => Q .next))) vs nw)
    (hs : swapsWithSole [.Tuple elts k tpos] value pos.line c.env = pure false := by rfl) (hw : swappedStores [.Tuple elts k tpos] value c.env = pure (some names) := by rfl) :
    Do c (exec (.Assign [.Tuple elts k tpos] value pos) c.env) Q vs nw := Do.mk fun pin s St =>
  Assign_Tuple_swapped (wpAny_mono (h.use St) (fun v s' ⟨_, _, S', h'⟩ => wpAny_mono (h'.use S') (fun items s₂ ⟨_, _, S₂, h₂⟩ => h₂.run pin s₂ S₂) fun _ _ x => x) fun _ _ x => x) hs hw

/-! loops over lists, tuples, texts, ranges -/
theorem get_some {h : Heap} {a : Addr} {o : Obj} (e : h.get? a = some o) : ∃ o, h.get? a = some o := ⟨o, e⟩
noncomputable def bodyQ (I : Nat → Vs → Nw → Prop) (k : Nat) (Q : Flow → Vs → Nw → Prop) : Flow → Vs → Nw → Prop := fun f vs nw => match f with
  | .next | .cont => I (k + 1) vs nw
  | .brk => Q .next vs nw
  | .ret v => Q (.ret v) vs nw
theorem for_list {i : Nat} {x : Str} {px : Pos} {body : List Stmt} {Q : Flow → Vs → Nw → Prop} (hx : c.ks[i]? = some x) (I : Nat → Vs → Nw → Prop) (h0 : I 0 vs nw) (hh0 : Has c nw l (lstOf xs n)) (hh : ∀ k vs nw, I k vs nw → Has c nw l (lstOf xs n))
    (turn : ∀ k v vs nw, xs[k]? = some v → I k vs nw → Do c (execs body c.env) (bodyQ I k Q) (vs.set i (some v)) nw)
    (fin : ∀ vs nw, I xs.length vs nw → Q .next vs nw) : ForAt c (.Name x px) body (.ref l) Q vs nw := by
  refine for_walk (n := xs.toArray.size) (P := fun i v => xs.toArray[i]? = some v) hx [(l, lstOf xs n)] I (fun pin s St => ?_) h0 (fun k vs nw hI p hp => ?_) (fun k v vs nw hk hv hI => ?_) (fun vs nw hI => fin vs nw (by simpa using hI))
  · have hl := isL St hh0
    have hlt : l < s.heap.objs.size := Heap.lt_size (St.get hh0).1
    refine wpAny_pyIter_list hl ⟨_, [s.heap.objs.size, l], [s.heap.objs.size], _, _, _, rfl, rfl, Walks.list c.hh s.heap.objs.size l (Nat.ne_of_lt hlt) xs.toArray, ⟨⟨_, Heap.get?_push_size _ rfl, rfl, rfl⟩, hl.push _⟩, fun b o e => Heap.get?_push_of_some _ e, fun b hb => ?_, fun b hb => ?_, fun k h st b hb => ?_⟩
    · rw [List.mem_singleton.mp hb]; exact Nat.le_refl _
    · rcases List.mem_cons.mp hb with rfl | hb
      · exact .inl (.head _)
      · rw [List.mem_singleton.mp hb]; exact .inr ⟨_, .head _⟩
    · rw [List.mem_singleton.mp hb]; obtain ⟨o, e, _⟩ := st.1; exact ⟨o, e⟩
  · rw [List.mem_singleton.mp hp]; exact hh k vs nw hI
  · exact turn k v vs nw (by simpa using hv) hI
theorem for_tuple {i : Nat} {x : Str} {px : Pos} {body : List Stmt} {Q : Flow → Vs → Nw → Prop} (hx : c.ks[i]? = some x) (I : Nat → Vs → Nw → Prop) (h0 : I 0 vs nw) (hh0 : Has c nw l (tupOf xs)) (hh : ∀ k vs nw, I k vs nw → Has c nw l (tupOf xs))
    (turn : ∀ k v vs nw, xs[k]? = some v → I k vs nw → Do c (execs body c.env) (bodyQ I k Q) (vs.set i (some v)) nw)
    (fin : ∀ vs nw, I xs.length vs nw → Q .next vs nw) : ForAt c (.Name x px) body (.ref l) Q vs nw := by
  refine for_walk (n := xs.toArray.size) (P := fun i v => xs.toArray[i]? = some v) hx [(l, tupOf xs)] I (fun pin s St => ?_) h0 (fun k vs nw hI p hp => ?_) (fun k v vs nw hk hv hI => ?_) (fun vs nw hI => fin vs nw (by simpa using hI))
  · have hl : s.heap.IsTuple l xs.toArray := isT St hh0
    have hlt : l < s.heap.objs.size := Heap.lt_size (St.get hh0).1
    refine wpAny_pyIter_tuple hl ⟨_, [s.heap.objs.size, l], [s.heap.objs.size], _, _, _, rfl, rfl, Walks.tuple c.hh s.heap.objs.size l (Nat.ne_of_lt hlt) xs.toArray, ⟨⟨_, Heap.get?_push_size _ rfl, rfl, rfl⟩, hl.push _⟩, fun b o e => Heap.get?_push_of_some _ e, fun b hb => ?_, fun b hb => ?_, fun k h st b hb => ?_⟩
    · rw [List.mem_singleton.mp hb]; exact Nat.le_refl _
    · rcases List.mem_cons.mp hb with rfl | hb
      · exact .inl (.head _)
      · rw [List.mem_singleton.mp hb]; exact .inr ⟨_, .head _⟩
    · rw [List.mem_singleton.mp hb]; obtain ⟨o, e, _⟩ := st.1; exact ⟨o, e⟩
  · rw [List.mem_singleton.mp hp]; exact hh k vs nw hI
  · exact turn k v vs nw (by simpa using hv) hI
theorem for_str {i : Nat} {x : Str} {px : Pos} {body : List Stmt} {Q : Flow → Vs → Nw → Prop} (hx : c.ks[i]? = some x) (I : Nat → Vs → Nw → Prop) (h0 : I 0 vs nw)
    (turn : ∀ k ch t' vs nw, a[k]? = some ch → I k vs nw → Do c (execs body c.env) (bodyQ I k Q) (vs.set i (some (.str (S [ch]) t'))) nw)
    (fin : ∀ vs nw, I a.length vs nw → Q .next vs nw) : ForAt c (.Name x px) body (.str (S a) t) Q vs nw := by
  refine for_walk (n := (S a).cps.size) (P := SignAt (S a)) hx [] I (fun pin s St => ?_) h0 (fun k vs nw hI p hp => (nomatch hp)) (fun k v vs nw hk hv hI => ?_) (fun vs nw hI => fin vs nw (by simpa [S] using hI))
  · cases ha : (S a).cps.all (· < 128)
    · refine wpAny_pyIter_wide ha ⟨_, [s.heap.objs.size], [s.heap.objs.size], _, _, _, rfl, rfl, Walks.strWide c.hh s.heap.objs.size (S a) t, ⟨_, Heap.get?_push_size _ rfl, rfl, rfl⟩, fun b o e => Heap.get?_push_of_some _ e, fun b hb => ?_, fun b hb => .inl hb, fun k h st b hb => ?_⟩
      · rw [List.mem_singleton.mp hb]; exact Nat.le_refl _
      · rw [List.mem_singleton.mp hb]; obtain ⟨o, e, _⟩ := st; exact ⟨o, e⟩
    · refine wpAny_pyIter_ascii ha ⟨_, [s.heap.objs.size], [s.heap.objs.size], _, _, _, rfl, rfl, Walks.strAscii c.hh s.heap.objs.size (S a) t, ⟨_, Heap.get?_push_size _ rfl, rfl, rfl⟩, fun b o e => Heap.get?_push_of_some _ e, fun b hb => ?_, fun b hb => .inl hb, fun k h st b hb => ?_⟩
      · rw [List.mem_singleton.mp hb]; exact Nat.le_refl _
      · rw [List.mem_singleton.mp hb]; obtain ⟨o, e, _⟩ := st; exact ⟨o, e⟩
  · obtain ⟨ch, u', e, rfl⟩ := hv
    exact turn k ch u' vs nw (by simpa [S] using e) hI

noncomputable abbrev rngOf (n : Int) (t t1 t2 : Tok) : Obj := { cls := .type "range", data := .fields #[.int 0 t1, .int n t, .int 1 t2] }
theorem do_range1 {k : Int} (h : ∀ a t1 t2, Q (.ref a) vs ((a, rngOf k t t1 t2) :: nw)) : Do c (call (.type "range") [.int k t]) Q vs nw := Do.mk fun pin s St =>
  call_range_1 (fun ht => ⟨_, _, St.alloc (rngOf k t _ _) rfl ht, h _ _ _⟩)
theorem iter_range {k : Nat} {t1 t2 : Tok} {s : Shared} {w : World} {A : Around} {E : Value → Shared → Prop} {Q : Value → Shared → Prop} (hr : s.heap.get? l = some (rngOf k t t1 t2)) (hk : k < 1000000)
    (hq : ∀ o, IsRangeIter (s.heap.push o) s.heap.objs.size (0 + ((0 : Nat) : Int) * 1) ((k : Int) - ((0 : Nat) : Int)) 1 → Q (.ref s.heap.objs.size) { s with heap := s.heap.push o }) : wpAny (MM w) A (pyIter (.ref l)) Q E s := by
  refine wpAny_pyIter_range (a := 0) (b := k) (c := 1) hr (small_one (by omega) (by omega) (by omega) (by omega)) (hq _ ?_)
  have hsz : Builtin.Range.rangeSize 0 (k : Int) 1 = (k : Int) := by rw [rangeSize_one]; split <;> omega
  rw [show (0 + ((0 : Nat) : Int) * 1) = (0 : Int) from by simp, show ((k : Int) - ((0 : Nat) : Int)) = Builtin.Range.rangeSize 0 (k : Int) 1 from by rw [hsz]; simp]
  exact Heap.get?_push_size _ rfl
theorem for_range {i : Nat} {x : Str} {px : Pos} {body : List Stmt} {k : Nat} {t1 t2 : Tok} {Q : Flow → Vs → Nw → Prop} (hx : c.ks[i]? = some x) (I : Nat → Vs → Nw → Prop) (h0 : I 0 vs nw) (hh0 : Has c nw l (rngOf k t t1 t2)) (hk : k < 1000000)
    (turn : ∀ j t' vs nw, j < k → I j vs nw → Do c (execs body c.env) (bodyQ I j Q) (vs.set i (some (.int j t'))) nw)
    (fin : ∀ vs nw, I k vs nw → Q .next vs nw) : ForAt c (.Name x px) body (.ref l) Q vs nw := by
  refine for_walk (n := k) (P := fun j v => ∃ t, v = .int (0 + j * 1) t) hx [] I (fun pin s St => ?_) h0 (fun k vs nw hI p hp => (nomatch hp)) (fun k v vs nw hk hv hI => ?_) fin
  · refine iter_range (St.get hh0).1 hk fun o st => ⟨_, [s.heap.objs.size], [s.heap.objs.size], _, _, _, rfl, rfl, Walks.range c.hh s.heap.objs.size 0 1 k, st, fun b o e => Heap.get?_push_of_some _ e, fun b hb => ?_, fun b hb => .inl hb, fun k h st b hb => ?_⟩
    · rw [List.mem_singleton.mp hb]; exact Nat.le_refl _
    · rw [List.mem_singleton.mp hb]; exact ⟨_, st⟩
  · obtain ⟨t', rfl⟩ := hv
    have e : (0 + (k : Int) * 1) = k := by simp
    rw [e]
    exact turn k t' vs nw hk hI

/-! more of ints -/
theorem abs_i (h : ∀ t', Q (.int (i.natAbs : Int) t') vs nw) : Do c (call (.builtin "abs") [.int i t]) Q vs nw := Do.mk fun pin s St => call_abs_int (fun t' k ht => ⟨_, _, St.toks ht, by
  have e : (if i < 0 then -i else i) = (i.natAbs : Int) := by split <;> omega
  rw [e]; exact h t'⟩)
theorem min_ii (h : ∀ t', Q (.int (min i j) t') vs nw) : Do c (call (.builtin "min") [.int i t, .int j u]) Q vs nw := Do.mk fun pin s St => min_two_ints c.hh (fun h' tk hk ht => ⟨_, _, St.ext hk ht, by
  split
  · rw [show j = min i j from by omega]; exact h _
  · rw [show i = min i j from by omega]; exact h _⟩)
theorem pow_10_4 (h : ∀ t', Q (.int 10000 t') vs nw) : Do c (binaryOp .Pow (.int 10 t) (.int 4 u)) Q vs nw := Do.mk fun pin s St => AutoIntOps.pow_4 (by decide) (by decide) (by decide) (by decide) (by decide +kernel) (fun ht => ⟨_, _, St.toks ht, h _⟩)
theorem mul_ii (ho : IntMulOk i j) (h : ∀ t', Q (.int (i * j) t') vs nw) : Do c (binaryOp .Mult (.int i t) (.int j u)) Q vs nw := Do.mk fun pin s St => mul_int (fun ht => ⟨_, _, St.toks ht, h _⟩) ho
theorem ne_bb {p q : Bool} (h : Q (.bool (p != q)) vs nw) : Do c (compareOp .NotEq (.bool p) (.bool q)) Q vs nw := Do.mk fun pin s S => RcNeAt.bool_bool p q _ _ _ _ (fun _ => ⟨_, _, S, by
  have e : (!(p == q)) = (p != q) := rfl
  rw [e]; exact h⟩)
noncomputable def IntsAt (xs : List Value) (ns : List Int) : Prop := All2 (fun v i => ∃ t, v = .int i t) xs ns
theorem preSum_eq (ns : List Int) : ∀ k, k ≤ ns.length → preSum (fun i => ns.getD i 0) k = (ns.take k).sum
  | 0, _ => by simp [preSum]
  | k + 1, hk => by
    have := preSum_eq ns k (by omega)
    show preSum (fun i => ns.getD i 0) k + ns.getD k 0 = _
    rw [this, List.take_succ_eq_append_getElem (by omega), List.sum_append]
    simp [List.getD_eq_getElem?_getD, List.getElem?_eq_getElem (show k < ns.length by omega)]
theorem sum_L {ns : List Int} (hh : Has c nw l (lstOf xs n)) (hi : IntsAt xs ns) (h : ∀ t', Q (.int ns.sum t') vs nw) : Do c (call (.builtin "sum") [.ref l]) Q vs nw := Do.mk fun pin s St => by
  have hl := isL St hh
  have hlt : l < s.heap.objs.size := Heap.lt_size (St.get hh).1
  have hlen : xs.length = ns.length := All2.length_eq hi
  refine call_sum_walkG (wpAny_pyIter_list hl ⟨_, [s.heap.objs.size, l], [s.heap.objs.size], _, _, _, (fun i => ns.getD i 0), rfl, Walks.list (A := c.A.in1) c.hh s.heap.objs.size l (Nat.ne_of_lt hlt) xs.toArray, ⟨⟨_, Heap.get?_push_size _ rfl, rfl, rfl⟩, hl.push _⟩, fun b hb => ?_, fun i v hv => ?_, fun h' tk t' hk ht => ⟨_, _, St.ext (fun b o e => hk b o (fun hm => ?_) (Heap.get?_push_of_some _ e)) ht, ?_⟩⟩)
  · show b < (s.heap.push _).objs.size
    rw [Heap.size_push]
    rcases List.mem_cons.mp hb with rfl | hb
    · exact Nat.lt_succ_self _
    · rw [List.mem_singleton.mp hb]; exact Nat.lt_succ_of_lt hlt
  · have hv' : xs[i]? = some v := by simpa using hv
    obtain ⟨h1, rfl⟩ := List.getElem?_eq_some_iff.mp hv'
    have := All2.get hi i h1 (by omega)
    simpa [List.getD_eq_getElem?_getD, List.getElem?_eq_getElem (show i < ns.length by omega)] using this
  · rw [List.mem_singleton.mp hm] at e; exact Nat.lt_irrefl _ (Heap.lt_size e)
  · rw [preSum_eq ns _ (by simp; omega)]
    rw [show xs.toArray.size = ns.length from by simpa using hlen, List.take_length]
    exact h t'
end
end Mine
end

section
open PySem PySem.W PySem.Calls PySem.Spec PyProof.Rows PySem.SeqAt
set_option maxRecDepth 100000
set_option linter.unusedVariables false
namespace Mine

section
variable {w : World} {A : Around} {R : Result → Shared → Prop} {I : Addr} {fp wr : List Addr} {n : Nat} {P : Nat → Value → Prop} {Sx : Nat → Heap → Prop}
theorem ext_loop (W : Walks PR w A.in1 I fp wr n P Sx) (L : Addr) (hLf : L ∉ fp) (res : Value) : ∀ (k i : Nat) (s : Shared) (acc : List Value) (c : Nat), n - i = k → i ≤ n → acc.length + (n - i) ≤ 16777216 → Sx i s.heap → s.heap.get? L = some (lstOf acc c) →
    (∀ h' tk ys c', ys.length = n - i → (∀ j v, ys[j]? = some v → P (i + j) v) → (∀ b o, b ≠ L → b ∉ wr → s.heap.get? b = some o → h'.get? b = some o) → h'.get? L = some (lstOf (acc ++ ys) c') → R (.ok (.ret res)) { s with heap := h', toks := tk }) →
    codeAny (MM w) A (.builtin "list.extend.loop" ⟨[.ref L, .ref I, res], []⟩) R s := by
  intro k
  induction k with
  | zero =>
    intro i s acc c hk hi hsz hst hL hR
    have hin : i = n := by omega
    subst hin
    refine codeAny_builtin PySem.F.entry_extend_loop ?_
    rw [Around.under_plainId PySem.F.plain_extend_loop _]
    show wpAny _ A.in1 (pyNext (.ref I) >>= _) _ _ s
    refine wpAny_bind (W.done s _ _ hst fun h' tk hk' => ?_)
    exact wpAny_pure (hR h' tk [] c (by simp) (fun j v h => by simp at h) (fun b o _ hb e => hk' b o hb e) (by simpa using hk' L _ (fun hm => hLf (W.sub _ hm)) hL))
  | succ k ih =>
    intro i s acc c hk hi hsz hst hL hR
    have hlt : i < n := by omega
    refine codeAny_builtin PySem.F.entry_extend_loop ?_
    rw [Around.under_plainId PySem.F.plain_extend_loop _]
    show wpAny _ A.in1 (pyNext (.ref I) >>= _) _ _ s
    refine wpAny_bind (W.item i s _ _ hlt hst fun v h' tk hP hst' hk' => ?_)
    have hLw : L ∉ wr := fun hm => hLf (W.sub _ hm)
    have hL' := hk' L _ hLw hL
    show wpAny _ A.in1 (updateSeq L (·.push v) >>= _) _ _ _
    refine wpAny_bind ?_
    refine wpAny_updateSeq hL' rfl (wpAny_pure ⟨plainId_quiet PySem.F.plain_extend_loop _, ih (i + 1) _ (acc ++ [v]) (c + 1) (by omega) hlt (by simp; omega) (W.frame _ _ _ hst' fun b hb o e => ?_) ?_ fun h'' tk'' ys c' hl hys hk'' hL'' => ?_⟩) ?_ ?_
    · exact (Heap.get?_update_other _ _ (fun h : L = b => hLf (by rw [h]; exact hb))).trans e
    · have := Heap.get?_update_self (Obj.mapSeq (·.push v)) hL' (by rw [mapSeq_push]; rfl)
      rw [mapSeq_push] at this
      simpa using this
    · refine hR h'' tk'' (v :: ys) c' (by simp; omega) (fun j x hj => ?_) (fun b o hb hbw e => hk'' b o hb hbw ((Heap.get?_update_other _ _ (Ne.symm hb)).trans (hk' b o hbw e))) (by simpa using hL'')
      cases j with
      | zero => simp at hj; subst hj; exact hP
      | succ j => simp at hj; have := hys j x hj; rw [show i + (j + 1) = i + 1 + j from by omega]; exact this
    · rw [szl]; simp; omega
    · rw [szl]; simp; omega
end

section
variable {c : Cx} {vs : Vs} {nw : Nw} {Q : Value → Vs → Nw → Prop} {a : List Nat} {t : Tok} {l : Addr} {xs : List Value} {n : Nat}
theorem txs_of_signs {a : List Nat} {ys : List Value} (hl : ys.length = a.length) (hy : ∀ (j : Nat) v, ys[j]? = some v → SignAt (S a) (0 + j) v) : Txs ys (a.map ([·])) := by
  induction a generalizing ys with
  | nil => simp at hl; subst hl; exact All2.nil
  | cons x a ih =>
    cases ys with
    | nil => simp at hl
    | cons y ys =>
      refine All2.cons ?_ (ih (by simpa using hl) fun j v hj => ?_)
      · obtain ⟨ch, u, e, rfl⟩ := hy 0 y rfl
        simp [S] at e
        subst e; exact ⟨u, rfl⟩
      · obtain ⟨ch, u, e, rfl⟩ := hy (j + 1) v (by simpa using hj)
        refine ⟨ch, u, ?_, rfl⟩
        simp [S] at e ⊢
        exact e
theorem m_extend_S {k : Nat} (h : nw[k]? = some (l, lstOf xs n)) (hsz : xs.length + a.length ≤ 16777216) (hq : ∀ ys n', Txs ys (a.map ([·])) → Q .none vs (nw.set k (l, lstOf (xs ++ ys) n'))) :
    Do c (call (.builtin "list.extend") [.ref l, .str (S a) t]) Q vs nw := Do.mk fun pin s St => by
  have hg := St.own _ (List.mem_of_getElem? h)
  have hlt : l < s.heap.objs.size := Heap.lt_size hg
  refine wpAny_call (codeAny_call_builtin PySem.F.slot_list_extend.plain PySem.F.entry_list_extend (PySem.F.slot_list_extend.check _ _ _ _ _ _ _ _ ⟨_, hg, rfl⟩ (PySem.F.args_list_extend_2 _ _) ?_))
  show wpAny _ _ (Builtin.List.listExtendWith (.ref l) (.str (S a) t) .none) _ _ s
  unfold Builtin.List.listExtendWith
  refine wpAny_bind (wpAny_typeOf (T := "str") (v := .str (S a) t) rfl ?_)
  have h1 : Builtin.List.listSameRef (.ref l) (.str (S a) t) = false := rfl
  have h2 : (Value.type "str" == Value.type "list") = false := by decide
  have h3 : (Value.type "str" == Value.type "tuple") = false := by decide
  simp only [h1, h2, h3, Bool.or_false, Bool.false_eq_true, if_false]
  refine wpAny_bind (wpAny_pyIter_str fun o Sx W hst => ?_)
  refine wpAny_bind (wpAny_holding ?_)
  unfold Builtin.List.listLengthHint
  refine wpAny_bind (wpAny_specialOf (T := "str") (v := .str (S a) t) rfl PySem.F.str_len ?_)
  wp_delta
  refine wpAny_bind (wpAny_isInstance (T := "str") (v := .str (S a) t) (b := true) rfl (by rw [isSubtype_type]; kernel_rfl) ?_)
  show wpAny _ _ (typeOf (Value.str (S a) t) >>= _) _ _ _
  refine wpAny_bind (wpAny_typeOf (T := "str") (v := .str (S a) t) rfl ?_)
  refine wpAny_pure ?_
  rw [if_neg (by decide)]
  refine wpAny_pure ⟨plainId_quiet PySem.F.plain_extend_loop _, ext_loop (W c.A.in1 c.hh) l (fun hm => ?_) _ (S a).cps.size 0 _ xs n rfl (Nat.zero_le _) (by simpa [S] using hsz) hst (Heap.get?_push_of_some _ hg) fun h' tk ys c' hl hys hk hL => ?_⟩
  · rw [List.mem_singleton.mp hm] at hlt; exact Nat.lt_irrefl _ hlt
  · refine fun ht => ⟨_, _, ?_, hq ys c' (txs_of_signs (by simpa [S] using hl) hys)⟩
    have hne : ∀ b o, s.heap.get? b = some o → b ∉ [s.heap.objs.size] := fun b o e hm => by rw [List.mem_singleton.mp hm] at e; exact Nat.lt_irrefl _ (Heap.lt_size e)
    exact St.upd' h (fun b o hb e => hk b o hb (hne b o e) (Heap.get?_push_of_some _ e)) hL ht
end
end Mine
end

section
open PySem PySem.W PySem.Calls PySem.Spec PyProof.Rows
set_option maxRecDepth 100000
set_option linter.unusedVariables false
namespace Mine

noncomputable def D_fspath : Fd := mkFd 131 ["path", "kind", "hook", "given"] [("type", .type "type"), ("issubclass", .builtin "issubclass"), ("str", .type "str"), ("bytes", .type "bytes")] (by intro w; kernel_rfl)
noncomputable def D_get_sep : Fd := mkFd 152 ["path"] [("isinstance", .builtin "isinstance"), ("bytes", .type "bytes")] (by intro w; kernel_rfl)
noncomputable def D_isabs : Fd := mkFd 159 ["s", "sep"] [("fspath", .ref 131), ("_get_sep", .ref 152)] (by intro w; kernel_rfl)
noncomputable def D_basename : Fd := mkFd 187 ["p", "sep", "i"] [("fspath", .ref 131), ("_get_sep", .ref 152)] (by intro w; kernel_rfl)
noncomputable def D_dirname : Fd := mkFd 194 ["p", "sep", "i", "head"] [("fspath", .ref 131), ("_get_sep", .ref 152), ("len", .builtin "len")] (by intro w; kernel_rfl)
noncomputable def D_split : Fd := mkFd 173 ["p", "sep", "i", "head", "tail"] [("fspath", .ref 131), ("_get_sep", .ref 152), ("len", .builtin "len")] (by intro w; kernel_rfl)
noncomputable def D_splitroot : Fd := mkFd 180 ["p", "sep", "empty"] [("fspath", .ref 131), ("isinstance", .builtin "isinstance"), ("bytes", .type "bytes")] (by intro w; kernel_rfl)

noncomputable def isStr (l : List Nat) (v : Value) (nw : Nw) : Prop := (∃ u, v = .str (S l) u) ∧ nw = []
theorem no_ro {c : Cx} {nw : Nw} : ∀ p ∈ ([] : Nw), Has c nw p.1 p.2 := fun _ h => nomatch h
theorem do_ret_str {c : Cx} {vs : Vs} {nw : Nw} {Q : Value → Vs → Nw → Prop} {f : Addr} {n : Nat} {args : List Value} {l : List Nat} (F : Fn f n args [] (isStr l)) (hn : Nat.ble n c.lev = true) (h : ∀ u, Q (.str (S l) u) vs nw) :
    Do c (call (.ref f) args) Q vs nw := do_fn F hn no_ro fun v nw' ⟨⟨u, e⟩, e2⟩ => by subst e e2; exact h u

theorem fn_get_sep (a : List Nat) (t : Tok) : Fn 152 1 [.str (S a) t] [] (isStr [47]) := by
  refine Fn.of D_get_sep (m := 0) rfl (fun w => by kernel_rfl) fun w A L os rm low => ?_
  refine do_cons ?_
  refine do_If ?_
  refine tr_val ?_
  refine do_CallB 0 rfl ?_
  refine do_args ?_
  refine do_loc 0 rfl rfl ?_
  refine do_args ?_
  refine do_glob 1 rfl ?_
  refine do_args0 ?_
  refine do_isi_str_bytes ?_
  refine truthy_bool ?_
  refine ⟨fun hT => (nomatch hT), fun hF => ?_⟩
  refine do_cons ?_
  refine do_Return ?_
  refine do_S [47] (by decide +kernel) fun _ => ?_
  exact ⟨[], .slnil, ⟨_, rfl⟩, rfl⟩

theorem fn_fspath (a : List Nat) (t : Tok) : Fn 131 1 [.str (S a) t] [] (isStr a) := by
  refine Fn.of D_fspath (m := 3) rfl (fun w => by kernel_rfl) fun w A L os rm low => ?_
  refine do_cons ?_
  refine do_Assign (i := 1) rfl ?_
  refine do_CallT 0 rfl ?_
  refine do_args ?_
  refine do_loc 0 rfl rfl ?_
  refine do_args0 ?_
  refine do_type_str ?_
  refine do_cons ?_
  refine do_If ?_
  refine tr_val ?_
  refine do_CallB 1 rfl ?_
  refine do_args ?_
  refine do_loc 1 rfl rfl ?_
  refine do_args ?_
  refine do_Tuple ?_
  refine do_args ?_
  refine do_glob 2 rfl ?_
  refine do_args ?_
  refine do_glob 3 rfl ?_
  refine do_args0 ⟨by decide, fun tp => ?_⟩
  refine do_args0 ?_
  refine do_issub (.inl (.head _)) ?_
  refine truthy_bool ⟨fun _ => ?_, fun h => (nomatch h)⟩
  refine do_cons ?_
  refine do_Return ?_
  refine do_loc 0 rfl rfl ?_
  exact ⟨[], List.nil_sublist _, ⟨t, rfl⟩, rfl⟩

theorem fn_isabs (a : List Nat) (t : Tok) : Fn 159 2 [.str (S a) t] [] (fun v nw => v = .bool (a.head? == some 47) ∧ nw = []) := by
  refine Fn.of D_isabs (m := 1) rfl (fun w => by kernel_rfl) fun w A L os rm low => ?_
  refine do_cons ?_
  refine do_Assign (i := 0) rfl ?_
  refine do_CallF D_fspath 0 rfl ?_
  refine do_args ?_
  refine do_loc 0 rfl rfl ?_
  refine do_args0 ?_
  refine do_ret_str (fn_fspath _ _) rfl fun u => ?_
  refine do_cons ?_
  refine do_Assign (i := 1) rfl ?_
  refine do_CallF D_get_sep 1 rfl ?_
  refine do_args ?_
  refine do_loc 0 rfl rfl ?_
  refine do_args0 ?_
  refine do_ret_str (fn_get_sep _ _) rfl fun u => ?_
  refine do_cons ?_
  refine do_Return ?_
  refine do_Meth F.plainAttrs_str F.slot_str_startswith F.type_str_startswith ?_
  refine do_loc 0 rfl rfl ?_
  refine ⟨.str, ?_⟩
  refine do_args ?_
  refine do_loc 1 rfl rfl ?_
  refine do_args0 ?_
  refine m_startswith ?_
  exact ⟨[], List.nil_sublist _, rfl, rfl⟩

noncomputable def tailOf (a : List Nat) : List Nat := (cutLast 47 a).2
noncomputable def headOf (a : List Nat) : List Nat := if (cutLast 47 a).1.isEmpty || (cutLast 47 a).1 == List.replicate (cutLast 47 a).1.length 47 then (cutLast 47 a).1 else rtrim (· == 47) (cutLast 47 a).1
theorem cut1 (a : List Nat) : cutL a none (some (((cutLast 47 a).1.length : Int) - 1 + 1)) = (cutLast 47 a).1 := by
  rw [show ((cutLast 47 a).1.length : Int) - 1 + 1 = ((cutLast 47 a).1.length : Nat) from by omega, cut_to]
  conv => lhs; arg 2; rw [← cutLast_app 47 a]
  rw [List.take_left]
theorem cut2 (a : List Nat) : cutL a (some (((cutLast 47 a).1.length : Int) - 1 + 1)) none = tailOf a := by
  rw [show ((cutLast 47 a).1.length : Int) - 1 + 1 = ((cutLast 47 a).1.length : Nat) from by omega, cut_from]
  conv => lhs; arg 2; rw [← cutLast_app 47 a]
  rw [List.drop_left]; rfl
theorem cutLast_len (c : Nat) (a : List Nat) : (cutLast c a).1.length ≤ a.length := by
  have := congrArg List.length (cutLast_app c a)
  rw [List.length_append] at this; omega

theorem fn_basename (a : List Nat) (t : Tok) (ha : a.length ≤ 100000) : Fn 187 2 [.str (S a) t] [] (isStr (tailOf a)) := by
  refine Fn.of D_basename (m := 2) rfl (fun w => by kernel_rfl) fun w A L os rm low => ?_
  refine do_cons ?_
  refine do_Assign (i := 0) rfl ?_
  refine do_CallF D_fspath 0 rfl ?_
  refine do_args ?_
  refine do_loc 0 rfl rfl ?_
  refine do_args0 ?_
  refine do_ret_str (fn_fspath _ _) rfl fun _ => ?_
  refine do_cons ?_
  refine do_Assign (i := 1) rfl ?_
  refine do_CallF D_get_sep 1 rfl ?_
  refine do_args ?_
  refine do_loc 0 rfl rfl ?_
  refine do_args0 ?_
  refine do_ret_str (fn_get_sep _ _) rfl fun _ => ?_
  refine do_cons ?_
  refine do_Assign (i := 2) rfl ?_
  refine do_BinOp ?_
  refine do_Meth F.plainAttrs_str F.slot_str_rfind F.type_str_rfind ?_
  refine do_loc 0 rfl rfl ?_
  refine ⟨.str, ?_⟩
  refine do_args ?_
  refine do_loc 1 rfl rfl ?_
  refine do_args0 ?_
  refine m_rfind fun _ => ?_
  refine do_int fun _ => ?_
  refine add_ii fun _ => ?_
  refine do_cons ?_
  refine do_Return ?_
  refine do_SliceS ?_
  refine do_loc 0 rfl rfl ?_
  refine do_part ?_
  refine do_loc 2 rfl rfl ?_
  refine do_part0 ?_
  refine ⟨_, _, some (_, _), none, rfl, rfl, rfl, by omega, fun _ => ?_⟩
  exact ⟨[], List.nil_sublist _, ⟨_, congrArg (fun l => Value.str (S l) _) (cut2 a)⟩, rfl⟩

theorem fn_dirname (a : List Nat) (t : Tok) (ha : a.length ≤ 100000) : Fn 194 2 [.str (S a) t] [] (isStr (headOf a)) := by
  have hl := cutLast_len 47 a
  refine Fn.of D_dirname (m := 3) rfl (fun w => by kernel_rfl) fun w A L os rm low => ?_
  refine do_cons ?_
  refine do_Assign (i := 0) rfl ?_
  refine do_CallF D_fspath 0 rfl ?_
  refine do_args ?_
  refine do_loc 0 rfl rfl ?_
  refine do_args0 ?_
  refine do_ret_str (fn_fspath _ _) rfl fun _ => ?_
  refine do_cons ?_
  refine do_Assign (i := 1) rfl ?_
  refine do_CallF D_get_sep 1 rfl ?_
  refine do_args ?_
  refine do_loc 0 rfl rfl ?_
  refine do_args0 ?_
  refine do_ret_str (fn_get_sep _ _) rfl fun _ => ?_
  refine do_cons ?_
  refine do_Assign (i := 2) rfl ?_
  refine do_BinOp ?_
  refine do_Meth F.plainAttrs_str F.slot_str_rfind F.type_str_rfind ?_
  refine do_loc 0 rfl rfl ?_
  refine ⟨.str, ?_⟩
  refine do_args ?_
  refine do_loc 1 rfl rfl ?_
  refine do_args0 ?_
  refine m_rfind fun _ => ?_
  refine do_int fun _ => ?_
  refine add_ii fun _ => ?_
  refine do_cons ?_
  refine do_Assign (i := 3) rfl ?_
  refine do_SliceS ?_
  refine do_loc 0 rfl rfl ?_
  refine do_part0 ?_
  refine do_part ?_
  refine do_loc 2 rfl rfl ?_
  refine ⟨_, _, none, some (_, _), rfl, rfl, rfl, by omega, fun _ => ?_⟩
  dsimp only [Option.map]
  rw [cut1]
  have fin : ∀ {c : Cx} {vs : Vs} {nw : Nw} {x : Str} {pos pos' : Pos} {u : Tok}, (headOf a = (cutLast 47 a).1) → True := fun _ => trivial
  refine do_cons ?_
  refine do_If ?_
  refine tr_BoolOp ?_
  refine tr_and ?_
  refine tr_val ?_
  refine do_loc 3 rfl rfl ?_
  refine truthy_s (by omega) ?_
  refine ⟨fun h1 => ?_, fun h1 => ⟨fun h => (nomatch h), fun _ => ?_⟩⟩
  · refine tr_and ?_
    refine tr_Compare ?_
    refine do_loc 3 rfl rfl ?_
    refine do_BinOp ?_
    refine do_loc 1 rfl rfl ?_
    refine do_CallB 2 rfl ?_
    refine do_args ?_
    refine do_loc 3 rfl rfl ?_
    refine do_args0 ?_
    refine len_s (by omega) fun _ => ?_
    refine mul_ci rfl (by omega) fun _ => ?_
    refine ne_ss ⟨_, rfl, ?_⟩
    refine ⟨fun h2 => tr_and0 ⟨fun _ => ?_, fun h => (nomatch h)⟩, fun h2 => ⟨fun h => (nomatch h), fun _ => ?_⟩⟩
    · refine do_cons ?_
      refine do_Assign (i := 3) rfl ?_
      refine do_Meth F.plainAttrs_str F.slot_str_rstrip F.type_str_rstrip ?_
      refine do_loc 3 rfl rfl ?_
      refine ⟨.str, ?_⟩
      refine do_args ?_
      refine do_loc 1 rfl rfl ?_
      refine do_args0 ?_
      refine m_rstrip (by omega) fun _ => ?_
      refine do_nil ?_
      refine do_cons ?_
      refine do_Return ?_
      refine do_loc 3 rfl rfl ?_
      refine ⟨[], List.nil_sublist _, ⟨_, congrArg (fun l => Value.str (S l) _) ?_⟩, rfl⟩
      unfold headOf
      rw [if_neg]
      rw [bne_iff_ne] at h2
      simp only [Bool.or_eq_true, not_or, Bool.not_eq_true, beq_eq_false_iff_ne]
      exact ⟨by simpa using h1, h2⟩
    · refine do_nil ?_
      refine do_cons ?_
      refine do_Return ?_
      refine do_loc 3 rfl rfl ?_
      refine ⟨[], List.nil_sublist _, ⟨_, congrArg (fun l => Value.str (S l) _) ?_⟩, rfl⟩
      unfold headOf
      rw [if_pos]
      have h3 : (cutLast 47 a).1 = List.replicate (cutLast 47 a).1.length 47 := by simpa using h2
      rw [Bool.or_eq_true, beq_iff_eq]
      exact .inr h3
  · refine do_nil ?_
    refine do_cons ?_
    refine do_Return ?_
    refine do_loc 3 rfl rfl ?_
    refine ⟨[], List.nil_sublist _, ⟨_, congrArg (fun l => Value.str (S l) _) ?_⟩, rfl⟩
    unfold headOf
    rw [if_pos]
    rw [Bool.or_eq_true]
    exact .inl (by simpa using h1)
end Mine
end

section
open PySem PySem.W PySem.Calls PySem.Spec PyProof.Rows
set_option maxRecDepth 100000
set_option linter.unusedVariables false
namespace Mine

noncomputable def isPair (x y : List Nat) (v : Value) (nw : Nw) : Prop := ∃ a u1 u2, v = .ref a ∧ nw = [(a, tupOf [.str (S x) u1, .str (S y) u2])]
noncomputable def isTrip (x y z : List Nat) (v : Value) (nw : Nw) : Prop := ∃ a u1 u2 u3, v = .ref a ∧ nw = [(a, tupOf [.str (S x) u1, .str (S y) u2, .str (S z) u3])]
theorem sub1 {p : Addr × Obj} {l : Nw} : [p].Sublist (p :: l) := (List.nil_sublist _).cons_cons _

theorem fn_split (a : List Nat) (t : Tok) (ha : a.length ≤ 100000) : Fn 173 2 [.str (S a) t] [] (isPair (headOf a) (tailOf a)) := by
  have hl := cutLast_len 47 a
  refine Fn.of D_split (m := 4) rfl (fun w => by kernel_rfl) fun w A L os rm low => ?_
  refine do_cons ?_
  refine do_Assign (i := 0) rfl ?_
  refine do_CallF D_fspath 0 rfl ?_
  refine do_args ?_
  refine do_loc 0 rfl rfl ?_
  refine do_args0 ?_
  refine do_ret_str (fn_fspath _ _) rfl fun _ => ?_
  refine do_cons ?_
  refine do_Assign (i := 1) rfl ?_
  refine do_CallF D_get_sep 1 rfl ?_
  refine do_args ?_
  refine do_loc 0 rfl rfl ?_
  refine do_args0 ?_
  refine do_ret_str (fn_get_sep _ _) rfl fun _ => ?_
  refine do_cons ?_
  refine do_Assign (i := 2) rfl ?_
  refine do_BinOp ?_
  refine do_Meth F.plainAttrs_str F.slot_str_rfind F.type_str_rfind ?_
  refine do_loc 0 rfl rfl ?_
  refine ⟨.str, ?_⟩
  refine do_args ?_
  refine do_loc 1 rfl rfl ?_
  refine do_args0 ?_
  refine m_rfind fun _ => ?_
  refine do_int fun _ => ?_
  refine add_ii fun _ => ?_
  refine do_cons ?_
  refine do_AssignSwap ["head", "tail"] ?_
  refine do_Tuple ?_
  refine do_args ?_
  refine do_SliceS ?_
  refine do_loc 0 rfl rfl ?_
  refine do_part0 ?_
  refine do_part ?_
  refine do_loc 2 rfl rfl ?_
  refine ⟨_, _, none, some (_, _), rfl, rfl, rfl, by omega, fun _ => ?_⟩
  refine do_args ?_
  refine do_SliceS ?_
  refine do_loc 0 rfl rfl ?_
  refine do_part ?_
  refine do_loc 2 rfl rfl ?_
  refine do_part0 ?_
  refine ⟨_, _, some (_, _), none, rfl, rfl, rfl, by omega, fun _ => ?_⟩
  refine do_args0 ⟨Nat.le_of_ble_eq_true rfl, fun tp => ?_⟩
  refine do_unpackT (.inl (.head _)) rfl ?_
  refine do_inOrder (do_bindName (i := 4) rfl (do_inOrder (do_bindName (i := 3) rfl (do_inOrder0 ?_))))
  dsimp only [Option.map]
  rw [cut1, cut2]
  refine do_cons ?_
  refine do_If ?_
  refine tr_BoolOp ?_
  refine tr_and ?_
  refine tr_val ?_
  refine do_loc 3 rfl rfl ?_
  refine truthy_s (by omega) ?_
  refine ⟨fun h1 => ?_, fun h1 => ⟨fun h => (nomatch h), fun _ => ?_⟩⟩
  · refine tr_and ?_
    refine tr_Compare ?_
    refine do_loc 3 rfl rfl ?_
    refine do_BinOp ?_
    refine do_loc 1 rfl rfl ?_
    refine do_CallB 2 rfl ?_
    refine do_args ?_
    refine do_loc 3 rfl rfl ?_
    refine do_args0 ?_
    refine len_s (by omega) fun _ => ?_
    refine mul_ci rfl (by omega) fun _ => ?_
    refine ne_ss ⟨_, rfl, ?_⟩
    refine ⟨fun h2 => tr_and0 ⟨fun _ => ?_, fun h => (nomatch h)⟩, fun h2 => ⟨fun h => (nomatch h), fun _ => ?_⟩⟩
    · refine do_cons ?_
      refine do_Assign (i := 3) rfl ?_
      refine do_Meth F.plainAttrs_str F.slot_str_rstrip F.type_str_rstrip ?_
      refine do_loc 3 rfl rfl ?_
      refine ⟨.str, ?_⟩
      refine do_args ?_
      refine do_loc 1 rfl rfl ?_
      refine do_args0 ?_
      refine m_rstrip (by omega) fun _ => ?_
      refine do_nil ?_
      refine do_cons ?_
      refine do_Return ?_
      refine do_Tuple ?_
      refine do_args ?_
      refine do_loc 3 rfl rfl ?_
      refine do_args ?_
      refine do_loc 4 rfl rfl ?_
      refine do_args0 ⟨Nat.le_of_ble_eq_true rfl, fun tq => ?_⟩
      have e : headOf a = rtrim (· == 47) (cutLast 47 a).1 := by
        unfold headOf
        rw [if_neg]
        rw [bne_iff_ne] at h2
        simp only [Bool.or_eq_true, not_or, Bool.not_eq_true, beq_eq_false_iff_ne]
        exact ⟨by simpa using h1, h2⟩
      rw [e]
      exact ⟨_, sub1, _, _, _, rfl, rfl⟩
    · refine do_nil ?_
      refine do_cons ?_
      refine do_Return ?_
      refine do_Tuple ?_
      refine do_args ?_
      refine do_loc 3 rfl rfl ?_
      refine do_args ?_
      refine do_loc 4 rfl rfl ?_
      refine do_args0 ⟨Nat.le_of_ble_eq_true rfl, fun tq => ?_⟩
      have e : headOf a = (cutLast 47 a).1 := by
        unfold headOf
        rw [if_pos]
        have h3 : (cutLast 47 a).1 = List.replicate (cutLast 47 a).1.length 47 := by simpa using h2
        rw [Bool.or_eq_true, beq_iff_eq]
        exact .inr h3
      rw [e]
      exact ⟨_, sub1, _, _, _, rfl, rfl⟩
  · refine do_nil ?_
    refine do_cons ?_
    refine do_Return ?_
    refine do_Tuple ?_
    refine do_args ?_
    refine do_loc 3 rfl rfl ?_
    refine do_args ?_
    refine do_loc 4 rfl rfl ?_
    refine do_args0 ⟨Nat.le_of_ble_eq_true rfl, fun tq => ?_⟩
    have e : headOf a = (cutLast 47 a).1 := by
      unfold headOf
      rw [if_pos]
      rw [Bool.or_eq_true]
      exact .inl (by simpa using h1)
    rw [e]
    exact ⟨_, sub1, _, _, _, rfl, rfl⟩

noncomputable def rootOf (a : List Nat) : List Nat := if a.take 1 != [47] then [] else if (a.take 2).drop 1 != [47] || (a.take 3).drop 2 == [47] then [47] else a.take 2
noncomputable def restOf (a : List Nat) : List Nat := if a.take 1 != [47] then a else if (a.take 2).drop 1 != [47] || (a.take 3).drop 2 == [47] then a.drop 1 else a.drop 2

theorem fn_splitroot (a : List Nat) (t : Tok) (ha : a.length ≤ 100000) : Fn 180 2 [.str (S a) t] [] (isTrip [] (rootOf a) (restOf a)) := by
  refine Fn.of D_splitroot (m := 2) rfl (fun w => by kernel_rfl) fun w A L os rm low => ?_
  refine do_cons ?_
  refine do_Assign (i := 0) rfl ?_
  refine do_CallF D_fspath 0 rfl ?_
  refine do_args ?_
  refine do_loc 0 rfl rfl ?_
  refine do_args0 ?_
  refine do_ret_str (fn_fspath _ _) rfl fun _ => ?_
  refine do_cons ?_
  refine do_If ?_
  refine tr_val ?_
  refine do_CallB 1 rfl ?_
  refine do_args ?_
  refine do_loc 0 rfl rfl ?_
  refine do_args ?_
  refine do_glob 2 rfl ?_
  refine do_args0 ?_
  refine do_isi_str_bytes ?_
  refine truthy_bool ?_
  refine ⟨fun hT => (nomatch hT), fun hF => ?_⟩
  refine do_cons ?_
  refine do_Assign (i := 1) rfl ?_
  refine do_S [47] (by decide +kernel) fun _ => ?_
  refine do_cons ?_
  refine do_Assign (i := 2) rfl ?_
  refine do_S [] (by decide +kernel) fun _ => ?_
  refine do_nil ?_
  refine do_cons ?_
  refine do_If ?_
  refine tr_Compare ?_
  refine do_SliceS ?_
  refine do_loc 0 rfl rfl ?_
  refine do_part0 ?_
  refine do_part ?_
  refine do_int fun _ => ?_
  refine ⟨_, _, none, some (_, _), rfl, rfl, rfl, by omega, fun _ => ?_⟩
  refine do_loc 1 rfl rfl ?_
  refine ne_ss ⟨_, rfl, ?_⟩
  rw [show cutL a (Option.map (fun x : Int × Tok => x.1) none) (Option.map (fun x : Int × Tok => x.1) (some (1, _))) = a.take 1 from cut_to a 1]
  refine ⟨fun h1 => ?_, fun h1 => ?_⟩
  · refine do_cons ?_
    refine do_Return ?_
    refine do_Tuple ?_
    refine do_args ?_
    refine do_loc 2 rfl rfl ?_
    refine do_args ?_
    refine do_loc 2 rfl rfl ?_
    refine do_args ?_
    refine do_loc 0 rfl rfl ?_
    refine do_args0 ⟨Nat.le_of_ble_eq_true rfl, fun tp => ?_⟩
    have e1 : rootOf a = [] := if_pos h1
    have e2 : restOf a = a := if_pos h1
    rw [e1, e2]
    exact ⟨_, sub1, _, _, _, _, rfl, rfl⟩
  · have thn : ((a.take 2).drop 1 != [47] || (a.take 3).drop 2 == [47]) = true → ∀ {c : Cx} {nw : Nw} (u1 u2 u3 : Tok) (ap : Addr), ∃ nw', nw'.Sublist ((ap, tupOf [.str (S []) u1, .str (S [47]) u2, .str (S (a.drop 1)) u3]) :: nw) ∧ isTrip [] (rootOf a) (restOf a) (.ref ap) nw' := by
      intro h c nw u1 u2 u3 ap
      have e1 : rootOf a = [47] := by unfold rootOf; rw [if_neg (by rw [h1]; decide), if_pos h]
      have e2 : restOf a = a.drop 1 := by unfold restOf; rw [if_neg (by rw [h1]; decide), if_pos h]
      rw [e1, e2]
      exact ⟨_, sub1, _, _, _, _, rfl, rfl⟩
    refine do_cons ?_
    refine do_If ?_
    refine tr_BoolOp ?_
    refine tr_or ?_
    refine tr_Compare ?_
    refine do_SliceS ?_
    refine do_loc 0 rfl rfl ?_
    refine do_part ?_
    refine do_int fun _ => ?_
    refine do_part ?_
    refine do_int fun _ => ?_
    refine ⟨_, _, some (_, _), some (_, _), rfl, rfl, rfl, by omega, fun _ => ?_⟩
    refine do_loc 1 rfl rfl ?_
    refine ne_ss ⟨_, rfl, ?_⟩
    rw [show cutL a (Option.map (fun x : Int × Tok => x.1) (some (1, _))) (Option.map (fun x : Int × Tok => x.1) (some (2, _))) = (a.take 2).drop 1 from cut_both a 1 2]
    refine ⟨fun h2 => ⟨fun _ => ?_, fun h => (nomatch h)⟩, fun h2 => ?_⟩
    · refine do_cons ?_
      refine do_Return ?_
      refine do_Tuple ?_
      refine do_args ?_
      refine do_loc 2 rfl rfl ?_
      refine do_args ?_
      refine do_loc 1 rfl rfl ?_
      refine do_args ?_
      refine do_SliceS ?_
      refine do_loc 0 rfl rfl ?_
      refine do_part ?_
      refine do_int fun _ => ?_
      refine do_part0 ?_
      refine ⟨_, _, some (_, _), none, rfl, rfl, rfl, by omega, fun _ => ?_⟩
      rw [show cutL a (Option.map (fun x : Int × Tok => x.1) (some (1, _))) (Option.map (fun x : Int × Tok => x.1) none) = a.drop 1 from cut_from a 1]
      refine do_args0 ⟨Nat.le_of_ble_eq_true rfl, fun tp => ?_⟩
      exact thn (by rw [h2]; rfl) (c := D_splitroot.cx w A L [] os _ rm low) _ _ _ _
    · refine tr_or ?_
      refine tr_Compare ?_
      refine do_SliceS ?_
      refine do_loc 0 rfl rfl ?_
      refine do_part ?_
      refine do_int fun _ => ?_
      refine do_part ?_
      refine do_int fun _ => ?_
      refine ⟨_, _, some (_, _), some (_, _), rfl, rfl, rfl, by omega, fun _ => ?_⟩
      refine do_loc 1 rfl rfl ?_
      refine eq_ss ⟨_, rfl, ?_⟩
      rw [show cutL a (Option.map (fun x : Int × Tok => x.1) (some (2, _))) (Option.map (fun x : Int × Tok => x.1) (some (3, _))) = (a.take 3).drop 2 from cut_both a 2 3]
      refine ⟨fun h3 => ⟨fun _ => ?_, fun h => (nomatch h)⟩, fun h3 => tr_or0 ⟨fun h => (nomatch h), fun _ => ?_⟩⟩
      · refine do_cons ?_
        refine do_Return ?_
        refine do_Tuple ?_
        refine do_args ?_
        refine do_loc 2 rfl rfl ?_
        refine do_args ?_
        refine do_loc 1 rfl rfl ?_
        refine do_args ?_
        refine do_SliceS ?_
        refine do_loc 0 rfl rfl ?_
        refine do_part ?_
        refine do_int fun _ => ?_
        refine do_part0 ?_
        refine ⟨_, _, some (_, _), none, rfl, rfl, rfl, by omega, fun _ => ?_⟩
        rw [show cutL a (Option.map (fun x : Int × Tok => x.1) (some (1, _))) (Option.map (fun x : Int × Tok => x.1) none) = a.drop 1 from cut_from a 1]
        refine do_args0 ⟨Nat.le_of_ble_eq_true rfl, fun tp => ?_⟩
        exact thn (by rw [h3, Bool.or_true]) (c := D_splitroot.cx w A L [] os _ rm low) _ _ _ _
      · refine do_cons ?_
        refine do_Return ?_
        refine do_Tuple ?_
        refine do_args ?_
        refine do_loc 2 rfl rfl ?_
        refine do_args ?_
        refine do_SliceS ?_
        refine do_loc 0 rfl rfl ?_
        refine do_part0 ?_
        refine do_part ?_
        refine do_int fun _ => ?_
        refine ⟨_, _, none, some (_, _), rfl, rfl, rfl, by omega, fun _ => ?_⟩
        rw [show cutL a (Option.map (fun x : Int × Tok => x.1) none) (Option.map (fun x : Int × Tok => x.1) (some (2, _))) = a.take 2 from cut_to a 2]
        refine do_args ?_
        refine do_SliceS ?_
        refine do_loc 0 rfl rfl ?_
        refine do_part ?_
        refine do_int fun _ => ?_
        refine do_part0 ?_
        refine ⟨_, _, some (_, _), none, rfl, rfl, rfl, by omega, fun _ => ?_⟩
        rw [show cutL a (Option.map (fun x : Int × Tok => x.1) (some (2, _))) (Option.map (fun x : Int × Tok => x.1) none) = a.drop 2 from cut_from a 2]
        refine do_args0 ⟨Nat.le_of_ble_eq_true rfl, fun tp => ?_⟩
        have e1 : rootOf a = a.take 2 := by unfold rootOf; rw [if_neg (by rw [h1]; decide), if_neg (by rw [h2, h3]; decide)]
        have e2 : restOf a = a.drop 2 := by unfold restOf; rw [if_neg (by rw [h1]; decide), if_neg (by rw [h2, h3]; decide)]
        rw [e1, e2]
        exact ⟨_, sub1, _, _, _, _, rfl, rfl⟩
end Mine
end

section
open PySem PySem.W PySem.Calls PySem.Spec PyProof.Rows
set_option maxRecDepth 100000
set_option linter.unusedVariables false
namespace Mine

theorem do_IfB {c : Cx} {vs : Vs} {nw : Nw} {test : Expr} {body orelse : List Stmt} {pos : Pos} {Q : Flow → Vs → Nw → Prop} (B : Bool)
    (h : Do c (isTrue test c.env (eval test c.env)) (fun b vs' nw' => b = B ∧ vs' = vs ∧ nw' = nw) vs nw)
    (ht : B = true → Do c (execs body c.env) Q vs nw) (hf : B = false → Do c (execs orelse c.env) Q vs nw) : Do c (exec (.If test body orelse pos) c.env) Q vs nw :=
  do_If (h.mono fun b vs' nw' ⟨e1, e2, e3⟩ => by subst e1 e2 e3; exact ⟨ht, hf⟩)
/-- a loop's body that goes on, by an If without other ends -/
theorem OfType.list {c : Cx} {nw : Nw} {l : Addr} {xs : List Value} {n : Nat} (h : Has c nw l (lstOf xs n)) : OfType c nw (.ref l) "list" := .inr ⟨l, _, rfl, rfl, rfl, .inl h⟩
theorem ret_none {Q : Prop} (h : Q) : (∀ a, Value.none ≠ .ref a) ∧ Q := ⟨fun _ e => (nomatch e), h⟩
theorem ret_str {x : Str} {t : Tok} {Q : Prop} (h : Q) : (∀ a, Value.str x t ≠ .ref a) ∧ Q := ⟨fun _ e => (nomatch e), h⟩
theorem tr_orB {c : Cx} {vs : Vs} {nw : Nw} {P : Bool → Vs → Nw → Prop} {x : Expr} {rest : List Expr} (B : Bool) (h : Do c (isTrue x c.env (eval x c.env)) (fun b vs' nw' => b = B ∧ vs' = vs ∧ nw' = nw) vs nw)
    (ht : B = true → P true vs nw) (hf : B = false → Do c (allTrue .Or rest c.env) P vs nw) : Do c (allTrue .Or (x :: rest) c.env) P vs nw :=
  tr_or (h.mono fun b vs' nw' ⟨e1, e2, e3⟩ => by subst e1 e2 e3; exact ⟨ht, hf⟩)

noncomputable def npStep (root : Bool) (acc : List (List Nat)) (x : List Nat) : List (List Nat) :=
  if x.isEmpty || x == [46] then acc else if x != [46, 46] || (!root && acc.isEmpty) || acc.getLast? == some [46, 46] then acc ++ [x] else acc.dropLast
noncomputable def normComps (a : List Nat) : List (List Nat) := (splitC 47 (restOf a)).foldl (npStep (!(rootOf a).isEmpty)) []
noncomputable def normPath (a : List Nat) : List Nat := rootOf a ++ joinL [47] (normComps a)
noncomputable def normOf (a : List Nat) : List Nat := if a.isEmpty then [46] else if (normPath a).isEmpty then [46] else normPath a

noncomputable def wt (ts : List (List Nat)) : Nat := (ts.map fun t => t.length + 1).sum
theorem wt_app (a b : List (List Nat)) : wt (a ++ b) = wt a + wt b := by simp [wt]
theorem wt_one (a : List Nat) : wt [a] = a.length + 1 := by simp [wt]
theorem wt_len (ts : List (List Nat)) : ts.length ≤ wt ts := by
  induction ts with
  | nil => exact Nat.zero_le _
  | cons a r ih => have : wt (a :: r) = a.length + 1 + wt r := by simp [wt]
                   rw [this, List.length_cons]; omega
theorem wt_join (ts : List (List Nat)) : (ts.map (·.length)).sum + ts.length * 1 = wt ts := by
  induction ts with
  | nil => rfl
  | cons a r ih => simp [wt] at ih ⊢; omega
theorem wt_split (c : Nat) (a : List Nat) : wt (splitC c a) = a.length + 1 := by
  induction a with
  | nil => simp [splitC, wt]
  | cons x a ih =>
    by_cases hx : x = c
    · subst hx
      rw [show splitC x (x :: a) = [] :: splitC x a from splitC_at [] (List.not_mem_nil)]
      have : wt ([] :: splitC x a) = 0 + 1 + wt (splitC x a) := by simp [wt]
      rw [this, ih, List.length_cons]; omega
    · have hne := splitC_ne c a
      obtain ⟨y, r, hr⟩ := List.exists_cons_of_ne_nil hne
      have e : splitC c (x :: a) = (x :: y) :: r := by simp [splitC, hx, hr]
      rw [e]
      rw [hr] at ih
      have h1 : wt ((x :: y) :: r) = (y.length + 1) + 1 + wt r := by simp [wt]
      have h2 : wt (y :: r) = y.length + 1 + wt r := by simp [wt]
      rw [h1]; rw [h2] at ih; rw [List.length_cons]; omega
theorem wt_dropLast (ts : List (List Nat)) : wt ts.dropLast ≤ wt ts := by
  rcases List.eq_nil_or_concat ts with rfl | ⟨r, x, rfl⟩
  · exact Nat.le_refl _
  · rw [List.concat_eq_append, List.dropLast_concat, wt_app]; omega
theorem wt_step (b : Bool) (acc : List (List Nat)) (x : List Nat) : wt (npStep b acc x) ≤ wt acc + (x.length + 1) := by
  unfold npStep
  split
  · omega
  · split
    · rw [wt_app, wt_one]; omega
    · have := wt_dropLast acc; omega
theorem wt_fold (b : Bool) : ∀ (l acc : List (List Nat)), wt (l.foldl (npStep b) acc) ≤ wt acc + wt l
  | [], acc => by simp [wt]
  | x :: l, acc => by
    have h1 := wt_fold b l (npStep b acc x)
    have h2 := wt_step b acc x
    have h3 : wt (x :: l) = x.length + 1 + wt l := by simp [wt]
    rw [List.foldl_cons]; omega
theorem restOf_len (a : List Nat) : (restOf a).length ≤ a.length := by
  unfold restOf
  split
  · exact Nat.le_refl _
  · split <;> simp
theorem rootOf_len (a : List Nat) : (rootOf a).length ≤ 2 := by
  unfold rootOf
  split
  · simp
  · split
    · simp
    · simp; omega
theorem wt_take (k : Nat) (ts : List (List Nat)) : wt (ts.take k) ≤ wt ts := by
  conv => rhs; rw [← List.take_append_drop k ts, wt_app]
  omega
theorem wt_mem {ts : List (List Nat)} {x : List Nat} (h : x ∈ ts) : x.length + 1 ≤ wt ts := by
  induction ts with
  | nil => cases h
  | cons y r ih =>
    have : wt (y :: r) = y.length + 1 + wt r := by simp [wt]
    rcases List.mem_cons.mp h with rfl | h
    · omega
    · have := ih h; omega
theorem joinL_len (z : List Nat) (ts : List (List Nat)) (hz : z.length = 1) : (joinL z ts).length ≤ wt ts := by
  induction ts with
  | nil => simp [joinL]
  | cons a r ih =>
    have h2 : wt (a :: r) = a.length + 1 + wt r := by simp [wt]
    cases r with
    | nil => simp [joinL, wt]
    | cons b r => simp only [joinL, List.length_append] at ih ⊢; omega

noncomputable def D_normpath : Fd := mkFd 201 ["path", "sep", "dot", "dotdot", "_", "initial_slashes", "comps", "new_comps", "comp"] [("fspath", .ref 131), ("isinstance", .builtin "isinstance"), ("bytes", .type "bytes"), ("splitroot", .ref 180)] (by intro w; kernel_rfl)

theorem Txs.pop {vs : List Value} {ts : List (List Nat)} (h : Txs vs ts) (hne : ts ≠ []) : ∃ ws a t, vs = ws ++ [.str (S a) t] ∧ Txs ws ts.dropLast ∧ ts = ts.dropLast ++ [a] := by
  induction h with
  | nil => exact absurd rfl hne
  | cons a h ih =>
    rename_i x y l m
    obtain ⟨t, rfl⟩ := a
    cases h with
    | nil => exact ⟨[], _, t, rfl, All2.nil, rfl⟩
    | cons b h' =>
      obtain ⟨ws, a', t', e1, e2, e3⟩ := ih (by simp)
      first | refine ⟨_ :: ws, a', t', by rw [e1]; rfl, ?_, ?_⟩ | refine hQ _ _ _ ⟨_ :: ws, a', t', by rw [e1]; rfl, ?_, ?_⟩ | refine hJ _ _ _ ⟨_ :: ws, a', t', by rw [e1]; rfl, ?_, ?_⟩ | refine hQ _ _ _ (hJ _ _ _ ⟨_ :: ws, a', t', by rw [e1]; rfl, ?_, ?_⟩)
      · rw [List.dropLast_cons_of_ne_nil (by simp)]; exact All2.cons ⟨_, rfl⟩ e2
      · rw [List.dropLast_cons_of_ne_nil (by simp), List.cons_append, ← e3]

theorem fn_normpath (a : List Nat) (t : Tok) (ha : a.length ≤ 100000) : Fn 201 3 [.str (S a) t] [] (isStr (normOf a)) := by
  have hrl := restOf_len a
  have hrt := rootOf_len a
  refine Fn.of D_normpath (m := 8) rfl (fun w => by kernel_rfl) fun w A L os rm low => ?_
  refine do_cons ?_
  refine do_Assign (i := 0) rfl ?_
  refine do_CallF D_fspath 0 rfl ?_
  refine do_args ?_
  refine do_loc 0 rfl rfl ?_
  refine do_args0 ?_
  refine do_ret_str (fn_fspath _ _) rfl fun _ => ?_
  refine do_cons ?_
  refine do_If ?_
  refine tr_val ?_
  refine do_CallB 1 rfl ?_
  refine do_args ?_
  refine do_loc 0 rfl rfl ?_
  refine do_args ?_
  refine do_glob 2 rfl ?_
  refine do_args0 ?_
  refine do_isi_str_bytes ?_
  refine truthy_bool ?_
  first | refine ⟨fun hT => (nomatch hT), fun hF => ?_⟩ | refine hQ _ _ _ ⟨fun hT => (nomatch hT), fun hF => ?_⟩ | refine hJ _ _ _ ⟨fun hT => (nomatch hT), fun hF => ?_⟩ | refine hQ _ _ _ (hJ _ _ _ ⟨fun hT => (nomatch hT), fun hF => ?_⟩)
  refine do_cons ?_
  refine do_Assign (i := 1) rfl ?_
  refine do_S [47] (by decide +kernel) fun _ => ?_
  refine do_cons ?_
  refine do_Assign (i := 2) rfl ?_
  refine do_S [46] (by decide +kernel) fun _ => ?_
  refine do_cons ?_
  refine do_Assign (i := 3) rfl ?_
  refine do_S [46, 46] (by decide +kernel) fun _ => ?_
  refine do_nil ?_
  refine do_cons ?_
  refine do_If ?_
  refine tr_Not ?_
  refine tr_val ?_
  refine do_loc 0 rfl rfl ?_
  refine truthy_s (by omega) ?_
  first | refine ⟨fun hT => ?_, fun hE => ?_⟩ | refine hQ _ _ _ ⟨fun hT => ?_, fun hE => ?_⟩ | refine hJ _ _ _ ⟨fun hT => ?_, fun hE => ?_⟩ | refine hQ _ _ _ (hJ _ _ _ ⟨fun hT => ?_, fun hE => ?_⟩)
  · refine do_cons ?_
    refine do_Return ?_
    refine do_loc 2 rfl rfl ?_
    first | refine ⟨[], List.nil_sublist _, ⟨_, congrArg (fun l => Value.str (S l) _) ?_⟩, rfl⟩ | refine hQ _ _ _ ⟨[], List.nil_sublist _, ⟨_, congrArg (fun l => Value.str (S l) _) ?_⟩, rfl⟩ | refine hJ _ _ _ ⟨[], List.nil_sublist _, ⟨_, congrArg (fun l => Value.str (S l) _) ?_⟩, rfl⟩ | refine hQ _ _ _ (hJ _ _ _ ⟨[], List.nil_sublist _, ⟨_, congrArg (fun l => Value.str (S l) _) ?_⟩, rfl⟩)
    exact (if_pos (by simpa using hT)).symm
  refine do_nil ?_
  refine do_cons ?_
  refine do_AssignTuple ?_
  refine do_CallF D_splitroot 3 rfl ?_
  refine do_args ?_
  refine do_loc 0 rfl rfl ?_
  refine do_args0 ?_
  refine do_fn (fn_splitroot _ _ ha) rfl no_ro ?_
  rintro v nw' ⟨tp, u1, u2, u3, rfl, rfl⟩
  refine do_assignT ?_
  refine do_unpackT (.inl (.head _)) rfl ?_
  refine do_inOrder (do_assignName (i := 4) rfl ?_)
  refine do_inOrder (do_assignName (i := 5) rfl ?_)
  refine do_inOrder (do_assignName (i := 0) rfl ?_)
  refine do_inOrder0 ?_
  refine Do.drop (nw' := []) ?_ (List.nil_sublist _)
  refine do_cons ?_
  refine do_Assign (i := 6) rfl ?_
  refine do_Meth F.plainAttrs_str F.slot_str_split F.type_str_split ?_
  refine do_loc 0 rfl rfl ?_
  first | refine ⟨.str, ?_⟩ | refine hQ _ _ _ ⟨.str, ?_⟩ | refine hJ _ _ _ ⟨.str, ?_⟩ | refine hQ _ _ _ (hJ _ _ _ ⟨.str, ?_⟩)
  refine do_args ?_
  refine do_loc 1 rfl rfl ?_
  refine do_args0 ?_
  refine m_split (by omega) fun cl xs hxs => ?_
  refine do_cons ?_
  refine do_Assign (i := 7) rfl ?_
  refine do_List ?_
  refine do_args0 ⟨Nat.le_of_ble_eq_true rfl, fun nl => ?_⟩
  have hw := wt_split 47 (restOf a)
  have hlen := hxs.len
  refine do_cons ?_
  refine do_For ?_
  refine do_loc 6 rfl rfl ?_
  refine for_list (i := 8) (l := cl) (xs := xs) (n := 0) rfl (fun k vs nw => ∃ oc ys n, Txs ys (((splitC 47 (restOf a)).take k).foldl (npStep (!(rootOf a).isEmpty)) []) ∧
    vs = [some (.str (S (restOf a)) u3), some (.str (S [47]) _), some (.str (S [46]) _), some (.str (S [46, 46]) _), some (.str (S []) u1), some (.str (S (rootOf a)) u2), some (.ref cl), some (.ref nl), oc] ∧ nw = [(nl, lstOf ys n), (cl, lstOf xs 0)])
    ⟨_, [], 0, All2.nil, rfl, rfl⟩ (.inl (.tail _ (.head _))) (fun k vs nw hI => ?_) (fun k v vs nw hv hI => ?_) (fun vs nw hI => ?_)
  · obtain ⟨_, _, _, _, _, rfl⟩ := hI
    try refine Do.opq fun _ hQ => ?_
    exact .inl (.tail _ (.head _))
  · obtain ⟨oc, ys, n, hys, rfl, rfl⟩ := hI
    try refine Do.opq fun _ hQ => ?_
    obtain ⟨x, tx, hx, rfl⟩ := hxs.get hv
    have hxl : x.length + 1 ≤ wt (splitC 47 (restOf a)) := wt_mem (List.mem_of_getElem? hx)
    have hacc := wt_fold (!(rootOf a).isEmpty) ((splitC 47 (restOf a)).take k) []
    have hk2 := wt_take k (splitC 47 (restOf a))
    have hyl := wt_len (((splitC 47 (restOf a)).take k).foldl (npStep (!(rootOf a).isEmpty)) [])
    have hyl2 := hys.len
    have hnx : ((splitC 47 (restOf a)).take (k + 1)).foldl (npStep (!(rootOf a).isEmpty)) [] = npStep (!(rootOf a).isEmpty) (((splitC 47 (restOf a)).take k).foldl (npStep (!(rootOf a).isEmpty)) []) x := by
      obtain ⟨hlt, he⟩ := List.getElem?_eq_some_iff.mp hx
      rw [List.take_succ_eq_append_getElem hlt, List.foldl_append, he]; rfl
    have w0 : wt [] = 0 := rfl
    generalize hg : ((splitC 47 (restOf a)).take k).foldl (npStep (!(rootOf a).isEmpty)) [] = acc at hys hnx hacc hyl hyl2
    refine do_cons ?_
    refine do_IfB (x.isEmpty || x == [46]) ?_ (fun h1 => ?_) (fun h1 => ?_)
    · refine tr_BoolOp ?_
      refine tr_or ?_
      refine tr_Not ?_
      refine tr_val ?_
      refine do_loc 8 rfl rfl ?_
      refine truthy_s (by omega) ?_
      first | refine ⟨fun hT => ⟨by simp at hT; simp [hT], rfl, rfl⟩, fun hF => ?_⟩ | refine hQ _ _ _ ⟨fun hT => ⟨by simp at hT; simp [hT], rfl, rfl⟩, fun hF => ?_⟩ | refine hJ _ _ _ ⟨fun hT => ⟨by simp at hT; simp [hT], rfl, rfl⟩, fun hF => ?_⟩ | refine hQ _ _ _ (hJ _ _ _ ⟨fun hT => ⟨by simp at hT; simp [hT], rfl, rfl⟩, fun hF => ?_⟩)
      refine tr_or ?_
      refine tr_Compare ?_
      refine do_loc 8 rfl rfl ?_
      refine do_loc 2 rfl rfl ?_
      refine eq_ss ⟨_, rfl, ?_⟩
      first | refine ⟨fun hT => ⟨by simp [hT], rfl, rfl⟩, fun hF2 => tr_or0 ⟨?_, rfl, rfl⟩⟩ | refine hQ _ _ _ ⟨fun hT => ⟨by simp [hT], rfl, rfl⟩, fun hF2 => tr_or0 ⟨?_, rfl, rfl⟩⟩ | refine hJ _ _ _ ⟨fun hT => ⟨by simp [hT], rfl, rfl⟩, fun hF2 => tr_or0 ⟨?_, rfl, rfl⟩⟩ | refine hQ _ _ _ (hJ _ _ _ ⟨fun hT => ⟨by simp [hT], rfl, rfl⟩, fun hF2 => tr_or0 ⟨?_, rfl, rfl⟩⟩)
      rw [hF2, Bool.or_false]; simpa using hF
    · refine do_cons ?_
      refine do_Continue ?_
      first | refine ⟨_, ys, n, ?_, rfl, rfl⟩ | refine hQ _ _ _ ⟨_, ys, n, ?_, rfl, rfl⟩ | refine hJ _ _ _ ⟨_, ys, n, ?_, rfl, rfl⟩ | refine hQ _ _ _ (hJ _ _ _ ⟨_, ys, n, ?_, rfl, rfl⟩)
      rw [hnx]; unfold npStep; rw [if_pos h1]; exact hys
    · refine do_nil ?_
      refine do_cons ?_
      refine do_IfB (x != [46, 46] || (!!(rootOf a).isEmpty && acc.isEmpty) || acc.getLast? == some [46, 46]) ?_ (fun h2 => ?_) (fun h2 => ?_)
      · refine tr_BoolOp ?_
        refine tr_or ?_
        refine tr_Compare ?_
        refine do_loc 8 rfl rfl ?_
        refine do_loc 3 rfl rfl ?_
        refine ne_ss ⟨_, rfl, ?_⟩
        first | refine ⟨fun hT => ⟨by rw [hT]; rfl, rfl, rfl⟩, fun hx2 => ?_⟩ | refine hQ _ _ _ ⟨fun hT => ⟨by rw [hT]; rfl, rfl, rfl⟩, fun hx2 => ?_⟩ | refine hJ _ _ _ ⟨fun hT => ⟨by rw [hT]; rfl, rfl, rfl⟩, fun hx2 => ?_⟩ | refine hQ _ _ _ (hJ _ _ _ ⟨fun hT => ⟨by rw [hT]; rfl, rfl, rfl⟩, fun hx2 => ?_⟩)
        rw [hx2, Bool.false_or]
        have hemp : ys.isEmpty = acc.isEmpty := by
          rw [Bool.eq_iff_iff, List.isEmpty_iff_length_eq_zero, List.isEmpty_iff_length_eq_zero, hys.len]
        refine tr_orB (!!(rootOf a).isEmpty && acc.isEmpty) ?_ (fun hb => ⟨by rw [hb]; rfl, rfl, rfl⟩) (fun hb => ?_)
        · refine tr_BoolOp ?_
          refine tr_and ?_
          refine tr_Not ?_
          refine tr_val ?_
          refine do_loc 5 rfl rfl ?_
          refine truthy_s (by omega) ?_
          first | refine ⟨fun hr => ?_, fun hr => ⟨by rw [hr]; rfl, rfl, rfl⟩⟩ | refine hQ _ _ _ ⟨fun hr => ?_, fun hr => ⟨by rw [hr]; rfl, rfl, rfl⟩⟩ | refine hJ _ _ _ ⟨fun hr => ?_, fun hr => ⟨by rw [hr]; rfl, rfl, rfl⟩⟩ | refine hQ _ _ _ (hJ _ _ _ ⟨fun hr => ?_, fun hr => ⟨by rw [hr]; rfl, rfl, rfl⟩⟩)
          refine tr_and ?_
          refine tr_Not ?_
          refine tr_val ?_
          refine do_loc 7 rfl rfl ?_
          refine truthy_L (.inl (.head _)) (by omega) ?_
          rw [hemp, Bool.not_not]
          first | exact ⟨fun he => tr_and0 ⟨by rw [hr, he]; rfl, rfl, rfl⟩, fun he => ⟨by rw [he, Bool.and_false], rfl, rfl⟩⟩ | exact hQ _ _ _ ⟨fun he => tr_and0 ⟨by rw [hr, he]; rfl, rfl, rfl⟩, fun he => ⟨by rw [he, Bool.and_false], rfl, rfl⟩⟩ | exact hJ _ _ _ ⟨fun he => tr_and0 ⟨by rw [hr, he]; rfl, rfl, rfl⟩, fun he => ⟨by rw [he, Bool.and_false], rfl, rfl⟩⟩ | exact hQ _ _ _ (hJ _ _ _ ⟨fun he => tr_and0 ⟨by rw [hr, he]; rfl, rfl, rfl⟩, fun he => ⟨by rw [he, Bool.and_false], rfl, rfl⟩⟩)
        · rw [hb, Bool.false_or]
          refine tr_or ?_
          refine tr_BoolOp ?_
          refine tr_and ?_
          refine tr_val ?_
          refine do_loc 7 rfl rfl ?_
          refine truthy_L (.inl (.head _)) (by omega) ?_
          first | refine ⟨fun hT => ?_, fun hF => ⟨fun h => (nomatch h), fun _ => tr_or0 ⟨?_, rfl, rfl⟩⟩⟩ | refine hQ _ _ _ ⟨fun hT => ?_, fun hF => ⟨fun h => (nomatch h), fun _ => tr_or0 ⟨?_, rfl, rfl⟩⟩⟩ | refine hJ _ _ _ ⟨fun hT => ?_, fun hF => ⟨fun h => (nomatch h), fun _ => tr_or0 ⟨?_, rfl, rfl⟩⟩⟩ | refine hQ _ _ _ (hJ _ _ _ ⟨fun hT => ?_, fun hF => ⟨fun h => (nomatch h), fun _ => tr_or0 ⟨?_, rfl, rfl⟩⟩⟩)
          · have hne : acc ≠ [] := by
              rintro rfl
              rw [hemp] at hT; cases hT
            obtain ⟨ws, y, ty, rfl, hws, hacc'⟩ := hys.pop hne
            refine tr_and ?_
            refine tr_Compare ?_
            refine do_Sub ?_
            refine do_loc 7 rfl rfl ?_
            refine do_UnaryOp ?_
            refine do_int fun _ => ?_
            refine neg_i fun _ => ?_
            refine item_L_last (.inl (.head _)) (by simp at hyl2; omega) ?_
            refine do_loc 3 rfl rfl ?_
            refine eq_ss ⟨_, rfl, ?_⟩
            have e : (acc.getLast? == some [46, 46]) = (y == [46, 46]) := by rw [hacc', List.getLast?_append]; rfl
            rw [e]
            first | exact ⟨fun h => tr_and0 ⟨fun _ => ⟨h.symm, rfl, rfl⟩, fun h => (nomatch h)⟩, fun h => ⟨fun h => (nomatch h), fun _ => tr_or0 ⟨h.symm, rfl, rfl⟩⟩⟩ | exact hQ _ _ _ ⟨fun h => tr_and0 ⟨fun _ => ⟨h.symm, rfl, rfl⟩, fun h => (nomatch h)⟩, fun h => ⟨fun h => (nomatch h), fun _ => tr_or0 ⟨h.symm, rfl, rfl⟩⟩⟩ | exact hJ _ _ _ ⟨fun h => tr_and0 ⟨fun _ => ⟨h.symm, rfl, rfl⟩, fun h => (nomatch h)⟩, fun h => ⟨fun h => (nomatch h), fun _ => tr_or0 ⟨h.symm, rfl, rfl⟩⟩⟩ | exact hQ _ _ _ (hJ _ _ _ ⟨fun h => tr_and0 ⟨fun _ => ⟨h.symm, rfl, rfl⟩, fun h => (nomatch h)⟩, fun h => ⟨fun h => (nomatch h), fun _ => tr_or0 ⟨h.symm, rfl, rfl⟩⟩⟩)
          · have : acc = [] := by
              rw [hemp] at hF; simpa using hF
            rw [this]; rfl
      · refine do_cons ?_
        refine do_Expr ?_
        refine do_Meth F.plainAttrs_list F.slot_list_append F.type_list_append ?_
        refine do_loc 7 rfl rfl ?_
        first | refine ⟨.list (.inl (.head _)), ?_⟩ | refine hQ _ _ _ ⟨.list (.inl (.head _)), ?_⟩ | refine hJ _ _ _ ⟨.list (.inl (.head _)), ?_⟩ | refine hQ _ _ _ (hJ _ _ _ ⟨.list (.inl (.head _)), ?_⟩)
        refine do_args ?_
        refine do_loc 8 rfl rfl ?_
        refine do_args0 ?_
        refine m_append (k := 0) rfl (by omega) (ret_none ?_)
        refine do_nil ?_
        refine do_nil ?_
        first | refine ⟨_, _, _, ?_, rfl, rfl⟩ | refine hQ _ _ _ ⟨_, _, _, ?_, rfl, rfl⟩ | refine hJ _ _ _ ⟨_, _, _, ?_, rfl, rfl⟩ | refine hQ _ _ _ (hJ _ _ _ ⟨_, _, _, ?_, rfl, rfl⟩)
        rw [hnx]; unfold npStep; rw [if_neg (by rw [h1]; decide), if_pos h2]; exact hys.snoc
      · refine do_cons ?_
        have hemp : ys.isEmpty = acc.isEmpty := by
          rw [Bool.eq_iff_iff, List.isEmpty_iff_length_eq_zero, List.isEmpty_iff_length_eq_zero, hys.len]
        refine do_IfB (!acc.isEmpty) ?_ (fun h3 => ?_) (fun h3 => ?_)
        · refine tr_val ?_
          refine do_loc 7 rfl rfl ?_
          refine truthy_L (.inl (.head _)) (by omega) ?_
          first | exact ⟨by rw [hemp], rfl, rfl⟩ | exact hQ _ _ _ ⟨by rw [hemp], rfl, rfl⟩ | exact hJ _ _ _ ⟨by rw [hemp], rfl, rfl⟩ | exact hQ _ _ _ (hJ _ _ _ ⟨by rw [hemp], rfl, rfl⟩)
        · have hne : acc ≠ [] := by simpa using h3
          obtain ⟨ws, y, ty, rfl, hws, hacc'⟩ := hys.pop hne
          refine do_cons ?_
          refine do_Expr ?_
          refine do_Meth F.plainAttrs_list F.slot_list_pop F.type_list_pop ?_
          refine do_loc 7 rfl rfl ?_
          first | refine ⟨.list (.inl (.head _)), ?_⟩ | refine hQ _ _ _ ⟨.list (.inl (.head _)), ?_⟩ | refine hJ _ _ _ ⟨.list (.inl (.head _)), ?_⟩ | refine hQ _ _ _ (hJ _ _ _ ⟨.list (.inl (.head _)), ?_⟩)
          refine do_args0 ?_
          refine m_pop (k := 0) rfl (by simp at hyl2; omega) (ret_str ?_)
          refine do_nil ?_
          refine do_nil ?_
          refine do_nil ?_
          first | refine ⟨_, ws, _, ?_, rfl, rfl⟩ | refine hQ _ _ _ ⟨_, ws, _, ?_, rfl, rfl⟩ | refine hJ _ _ _ ⟨_, ws, _, ?_, rfl, rfl⟩ | refine hQ _ _ _ (hJ _ _ _ ⟨_, ws, _, ?_, rfl, rfl⟩)
          rw [hnx]; unfold npStep; rw [if_neg (by rw [h1]; decide), if_neg (by rw [h2]; decide)]; exact hws
        · refine do_nil ?_
          refine do_nil ?_
          refine do_nil ?_
          first | refine ⟨_, ys, _, ?_, rfl, rfl⟩ | refine hQ _ _ _ ⟨_, ys, _, ?_, rfl, rfl⟩ | refine hJ _ _ _ ⟨_, ys, _, ?_, rfl, rfl⟩ | refine hQ _ _ _ (hJ _ _ _ ⟨_, ys, _, ?_, rfl, rfl⟩)
          have : acc = [] := by simpa using h3
          subst this
          rw [hnx]; unfold npStep; rw [if_neg (by rw [h1]; decide), if_neg (by rw [h2]; decide)]; exact hys
  · obtain ⟨oc, ys, n, hys, rfl, rfl⟩ := hI
    try refine Do.opq fun _ hQ => ?_
    rw [hlen, List.take_length] at hys
    have hacc := wt_fold (!(rootOf a).isEmpty) (splitC 47 (restOf a)) []
    have hys' : Txs ys (normComps a) := hys
    have w0 : wt [] = 0 := rfl
    have hacc' : wt (normComps a) ≤ wt [] + wt (splitC 47 (restOf a)) := hacc
    refine do_cons ?_
    refine do_Assign (i := 6) rfl ?_
    refine do_loc 7 rfl rfl ?_
    refine do_cons ?_
    refine do_Assign (i := 0) rfl ?_
    refine do_BinOp ?_
    refine do_loc 5 rfl rfl ?_
    refine do_Meth F.plainAttrs_str F.slot_str_join F.type_str_join ?_
    refine do_loc 1 rfl rfl ?_
    first | refine ⟨.str, ?_⟩ | refine hQ _ _ _ ⟨.str, ?_⟩ | refine hJ _ _ _ ⟨.str, ?_⟩ | refine hQ _ _ _ (hJ _ _ _ ⟨.str, ?_⟩)
    refine do_args ?_
    refine do_loc 6 rfl rfl ?_
    refine do_args0 ?_
    refine m_join (.inl (.head _)) hys' (by have := wt_join (normComps a); simp only [List.length_cons, List.length_nil]; omega) fun _ => ?_
    have hjl := joinL_len [47] (normComps a) rfl
    refine add_ss (by omega) fun _ => ?_
    refine do_cons ?_
    refine do_Return ?_
    refine do_Or ?_
    refine do_loc 0 rfl rfl ?_
    refine truthy_s (by rw [List.length_append]; omega) ?_
    have hE' : a.isEmpty = false := by simpa using hE
    first | refine ⟨fun hT => ?_, fun hF => ?_⟩ | refine hQ _ _ _ ⟨fun hT => ?_, fun hF => ?_⟩ | refine hJ _ _ _ ⟨fun hT => ?_, fun hF => ?_⟩ | refine hQ _ _ _ (hJ _ _ _ ⟨fun hT => ?_, fun hF => ?_⟩)
    · first | refine ⟨[], List.nil_sublist _, ⟨_, congrArg (fun l => Value.str (S l) _) ?_⟩, rfl⟩ | refine hQ _ _ _ ⟨[], List.nil_sublist _, ⟨_, congrArg (fun l => Value.str (S l) _) ?_⟩, rfl⟩ | refine hJ _ _ _ ⟨[], List.nil_sublist _, ⟨_, congrArg (fun l => Value.str (S l) _) ?_⟩, rfl⟩ | refine hQ _ _ _ (hJ _ _ _ ⟨[], List.nil_sublist _, ⟨_, congrArg (fun l => Value.str (S l) _) ?_⟩, rfl⟩)
      unfold normOf
      rw [if_neg (by rw [hE']; decide), if_neg (by unfold normPath; simpa using hT)]
      rfl
    · refine do_loc 2 rfl rfl ?_
      first | refine ⟨[], List.nil_sublist _, ⟨_, congrArg (fun l => Value.str (S l) _) ?_⟩, rfl⟩ | refine hQ _ _ _ ⟨[], List.nil_sublist _, ⟨_, congrArg (fun l => Value.str (S l) _) ?_⟩, rfl⟩ | refine hJ _ _ _ ⟨[], List.nil_sublist _, ⟨_, congrArg (fun l => Value.str (S l) _) ?_⟩, rfl⟩ | refine hQ _ _ _ (hJ _ _ _ ⟨[], List.nil_sublist _, ⟨_, congrArg (fun l => Value.str (S l) _) ?_⟩, rfl⟩)
      unfold normOf
      rw [if_neg (by rw [hE']; decide), if_pos (by unfold normPath; simpa using hF)]
end Mine
end

section
open PySem PySem.W PySem.Calls PySem.Spec PyProof.Rows
set_option maxRecDepth 100000
set_option linter.unusedVariables false
namespace Mine

noncomputable def nextQ (J : Vs → Nw → Prop) (Q : Flow → Vs → Nw → Prop) : Flow → Vs → Nw → Prop
  | .next => J
  | f => Q f
/-- a statement that goes on or ends, by what holds behind it -/
theorem do_thenQ {c : Cx} {vs : Vs} {nw : Nw} {st : Stmt} {rest : List Stmt} {Q : Flow → Vs → Nw → Prop} (J : Vs → Nw → Prop) (h1 : Do c (exec st c.env) (nextQ J Q) vs nw) (h2 : ∀ vs nw, J vs nw → Do c (execs rest c.env) Q vs nw) :
    Do c (execs (st :: rest) c.env) Q vs nw := do_cons (h1.mono fun f vs nw h => by cases f <;> first | exact h2 vs nw h | exact h)

noncomputable def D_splitext : Fd := mkFd 138 ["p", "sep", "altsep", "extsep", "sepIndex", "altsepIndex", "dotIndex", "filenameIndex"] [("max", .builtin "max")] (by intro w; kernel_rfl)

noncomputable def isExt (a : List Nat) (v : Value) (nw : Nw) : Prop := ∃ x y, x ++ y = a ∧ (y = [] ∨ y.head? = some 46) ∧ isPair x y v nw

theorem cutLast_dot {a : List Nat} {n : Nat} (h : ((cutLast 46 a).1.length : Int) - 1 = n) : (a.drop n).head? = some 46 := by
  have hm : 46 ∈ a := by
    apply Classical.byContradiction
    intro hn
    rw [cutLast_free hn] at h
    simp at h
    try omega
  obtain ⟨p, q, rfl, hq⟩ := last_split hm
  rw [cutLast_at p hq] at h
  have : n = p.length := by simp at h; omega
  subst this
  simp

theorem fn_splitext (a : List Nat) (t u v : Tok) (ha : a.length ≤ 100000) : Fn 138 1 [.str (S a) t, .str (S [47]) u, .none, .str (S [46]) v] [] (isExt a) := by
  refine Fn.of D_splitext (m := 4) rfl (fun w => by kernel_rfl) fun w A L os rm low => ?_
  refine do_cons ?_
  refine do_Assign (i := 4) rfl ?_
  refine do_Meth F.plainAttrs_str F.slot_str_rfind F.type_str_rfind ?_
  refine do_loc 0 rfl rfl ?_
  refine ⟨.str, ?_⟩
  refine do_args ?_
  refine do_loc 1 rfl rfl ?_
  refine do_args0 ?_
  refine m_rfind fun _ => ?_
  refine do_cons ?_
  refine do_If ?_
  refine tr_val ?_
  refine do_loc 2 rfl rfl ?_
  refine truthy_none ?_
  refine ⟨fun hT => (nomatch hT), fun hF => ?_⟩
  refine do_nil ?_
  refine do_cons ?_
  refine do_Assign (i := 6) rfl ?_
  refine do_Meth F.plainAttrs_str F.slot_str_rfind F.type_str_rfind ?_
  refine do_loc 0 rfl rfl ?_
  refine ⟨.str, ?_⟩
  refine do_args ?_
  refine do_loc 3 rfl rfl ?_
  refine do_args0 ?_
  refine m_rfind fun _ => ?_
  refine do_thenQ (fun vs nw => ∃ x5 x7 si di, vs = [some (.str (S a) t), some (.str (S [47]) u), some .none, some (.str (S [46]) v), si, x5, di, x7] ∧ nw = []) ?_ ?_
  rotate_left
  · rintro vs nw ⟨x5, x7, si, di, rfl, rfl⟩
    refine do_cons ?_
    refine do_Return ?_
    refine do_Tuple ?_
    refine do_args ?_
    refine do_loc 0 rfl rfl ?_
    refine do_args ?_
    refine do_SliceS ?_
    refine do_loc 0 rfl rfl ?_
    refine do_part0 ?_
    refine do_part ?_
    refine do_int fun _ => ?_
    refine ⟨_, _, none, some (_, _), rfl, rfl, rfl, by omega, fun _ => ?_⟩
    rw [show cutL a (Option.map (fun x : Int × Tok => x.1) none) (Option.map (fun x : Int × Tok => x.1) (some (0, _))) = a.take 0 from cut_to a 0]
    refine do_args0 ⟨Nat.le_of_ble_eq_true rfl, fun tp => ?_⟩
    exact ⟨_, sub1, a, [], by simp, .inl rfl, _, _, _, rfl, rfl⟩
  refine do_IfB (decide (((cutLast 47 a).1.length : Int) - 1 < ((cutLast 46 a).1.length : Int) - 1)) ?_ (fun h1 => ?_) (fun h1 => ?_)
  · refine tr_Compare ?_
    refine do_loc 6 rfl rfl ?_
    refine do_loc 4 rfl rfl ?_
    exact gt_ii ⟨_, rfl, rfl, rfl, rfl⟩
  · have h1' := of_decide_eq_true h1
    obtain ⟨n, hn⟩ : ∃ n : Nat, ((cutLast 46 a).1.length : Int) - 1 = n := ⟨(((cutLast 46 a).1.length : Int) - 1).toNat, by omega⟩
    refine do_cons ?_
    refine do_Assign (i := 7) rfl ?_
    refine do_BinOp ?_
    refine do_loc 4 rfl rfl ?_
    refine do_int fun _ => ?_
    refine add_ii fun _ => ?_
    refine do_cons ?_
    refine do_While (fun m vs nw => ∃ (k : Nat) (tk : Tok) (x5 : Option Value) (ti : Tok) (si : Option Value), (k : Int) ≤ n ∧ m = n - k ∧ vs = [some (.str (S a) t), some (.str (S [47]) u), some .none, some (.str (S [46]) v), si, x5, some (.int n ti), some (.int k tk)] ∧ nw = []) (n - (cutLast 47 a).1.length)
      ⟨(cutLast 47 a).1.length, _, _, _, _, by omega, rfl, by rw [hn, show ((cutLast 47 a).1.length : Int) - 1 + 1 = (cutLast 47 a).1.length from by omega]; rfl, rfl⟩ ?_
    rintro m vs nw ⟨k, tk, x5, ti, si, hk, rfl, rfl, rfl⟩
    refine tr_Compare ?_
    refine do_loc 7 rfl rfl ?_
    refine do_loc 6 rfl rfl ?_
    refine lt_ii ⟨_, rfl, fun h2 => ?_, fun h2 => ?_⟩
    · have h2' := of_decide_eq_true h2
      refine do_cons ?_
      refine do_If ?_
      refine tr_Compare ?_
      refine do_SliceS ?_
      refine do_loc 0 rfl rfl ?_
      refine do_part ?_
      refine do_loc 7 rfl rfl ?_
      refine do_part ?_
      refine do_BinOp ?_
      refine do_loc 7 rfl rfl ?_
      refine do_int fun _ => ?_
      refine add_ii fun _ => ?_
      refine ⟨_, _, some (_, _), some (_, _), rfl, rfl, rfl, by omega, fun _ => ?_⟩
      refine do_loc 3 rfl rfl ?_
      refine ne_ss ⟨_, rfl, fun h3 => ?_, fun h3 => ?_⟩
      · refine do_cons ?_
        refine do_Return ?_
        refine do_Tuple ?_
        refine do_args ?_
        refine do_SliceS ?_
        refine do_loc 0 rfl rfl ?_
        refine do_part0 ?_
        refine do_part ?_
        refine do_loc 6 rfl rfl ?_
        refine ⟨_, _, none, some (_, _), rfl, rfl, rfl, by omega, fun _ => ?_⟩
        rw [show cutL a (Option.map (fun x : Int × Tok => x.1) none) (Option.map (fun x : Int × Tok => x.1) (some ((n : Int), _))) = a.take n from cut_to a n]
        refine do_args ?_
        refine do_SliceS ?_
        refine do_loc 0 rfl rfl ?_
        refine do_part ?_
        refine do_loc 6 rfl rfl ?_
        refine do_part0 ?_
        refine ⟨_, _, some (_, _), none, rfl, rfl, rfl, by omega, fun _ => ?_⟩
        rw [show cutL a (Option.map (fun x : Int × Tok => x.1) (some ((n : Int), _))) (Option.map (fun x : Int × Tok => x.1) none) = a.drop n from cut_from a n]
        refine do_args0 ⟨Nat.le_of_ble_eq_true rfl, fun tp => ?_⟩
        exact ⟨_, sub1, a.take n, a.drop n, List.take_append_drop _ _, .inr (cutLast_dot hn), _, _, _, rfl, rfl⟩
      · refine do_nil ?_
        refine do_cons ?_
        refine do_Aug (i := 7) rfl rfl ?_
        refine do_int fun _ => ?_
        refine iadd_ii fun _ => ?_
        refine do_nil ?_
        exact ⟨n - (k + 1), by omega, k + 1, _, _, _, _, by omega, rfl, rfl, rfl⟩
    · refine do_nil ?_
      exact ⟨_, _, _, _, rfl, rfl⟩
  · refine do_nil ?_
    exact ⟨_, _, _, _, rfl, rfl⟩
end Mine
end

section
open PySem PySem.W PySem.Calls PySem.Spec PyProof.Rows PySem.SeqAt
set_option maxRecDepth 100000
set_option linter.unusedVariables false
namespace Mine
theorem go_tupleiter {w : World} {A : Around} {E : Value → Shared → Prop} {s : Shared} {target : Expr} {I l : Addr} {i : Nat} {v : Value} {Q : Unit → Shared → Prop} (hit : s.heap.IsTupleIter I l i) (hQ : Q () s) :
    wpAny (MM w) A (letOwnedTupleGo target (.ref I) v) Q E s := by
  obtain ⟨o, ho, hc, hd⟩ := hit
  have key : ∀ T : Addr, wpAny (MM w) A (do
      let o ← load I
      match o.cls, o.data with
      | .type n, .fields vs =>
        if ["enumerate", "zip", "dict_itemiterator", "dict_reverseitemiterator", "odict_iterator", "itertools.zip_longest", "itertools.pairwise"].contains n && vs[0]? == some (rawInt T) then
          rule "for.unpacks-the-owned-tuple"
          updateField I 0 .none
      | _, _ => pure ()) Q E s := by
    intro T
    refine wpAny_bind (wpAny_load ho ?_)
    rw [hc, hd]
    show wpAny _ A (if (["enumerate", "zip", "dict_itemiterator", "dict_reverseitemiterator", "odict_iterator", "itertools.zip_longest", "itertools.pairwise"].contains "tuple_iterator" && _) = true then _ else _) Q E s
    rw [if_neg (by
      intro h
      rw [show (["enumerate", "zip", "dict_itemiterator", "dict_reverseitemiterator", "odict_iterator", "itertools.zip_longest", "itertools.pairwise"].contains "tuple_iterator") = false from by decide, Bool.false_and] at h
      cases h)]
    exact wpAny_pure hQ
  cases target with
  | Tuple elts x1 pos => cases v <;> first | exact wpAny_pure hQ | exact key _
  | List elts pos => cases v <;> first | exact wpAny_pure hQ | exact key _
  | _ => exact wpAny_pure hQ

section
variable {c : Cx} {vs : Vs} {nw : Nw} {l : Addr} {xs : List Value} {n : Nat}

/-- a loop by an iterator: `ext`: the objects outside the iterator that it reads -/
theorem for_walkT {target : Expr} {body : List Stmt} {xv : Value} {Q : Flow → Vs → Nw → Prop} {n : Nat} {P : Nat → Value → Prop} (ext : Nw) (I : Nat → Vs → Nw → Prop)
    (hit : ∀ pin s, St c pin vs nw s → wpAny (MM c.w) c.A (pyIter xv) (fun it s₂ => ∃ a fp wr St₀ h' tk, it = .ref a ∧ s₂ = { s with heap := h', toks := tk } ∧ Walks PR c.w c.A a fp wr n P St₀ ∧ St₀ 0 h' ∧
      (∀ b o, s.heap.get? b = some o → h'.get? b = some o) ∧ (∀ b ∈ wr, s.heap.objs.size ≤ b) ∧ (∀ b ∈ fp, b ∈ wr ∨ ∃ o, (b, o) ∈ ext) ∧ (∀ k h, St₀ k h → ∀ b ∈ wr, ∃ o, h.get? b = some o) ∧ ∀ (k : Nat) (s' : Shared) (v : Value) (Q' : Unit → Shared → Prop) (E' : Value → Shared → Prop), St₀ k s'.heap → P (k - 1) v → Q' () s' → wpAny (MM c.w) c.A (letOwnedTupleGo target (.ref a) v) Q' E' s') (fun _ _ => False) s)
    (h0 : I 0 vs nw) (hext : ∀ k vs nw, I k vs nw → ∀ p ∈ ext, Has c nw p.1 p.2)
    (turn : ∀ k v vs nw, k < n → P k v → I k vs nw → Do c (assign target c.env v) (fun _ => Do c (execs body c.env) (bodyQ I k Q)) vs nw)
    (fin : ∀ vs nw, I n vs nw → Q .next vs nw) : ForAt c target body xv Q vs nw := ForAt.mk fun pin s S => by
  refine wpAny_with_toks S.tk (wpAny_mono (hit pin s S) (fun it s₂ hh ht => ?_) fun _ _ x => x.elim)
  obtain ⟨a, fp, wr, St₀, h', tk, rfl, rfl, W, st0, hk, hwr, hfp, hex, hgo⟩ := hh
  have S₀ : St c pin vs nw { s with heap := h', toks := tk } := S.ext hk ht
  refine codeAny_forLoop_any (fun m s' => ∃ k vs nw, m = n + 1 - k ∧ k ≤ n ∧ St c pin vs nw s' ∧ I k vs nw ∧ St₀ k s'.heap ∧ ∀ b ∈ wr, c.env.locals < b ∧ (∀ o, ¬ pin b o) ∧ ∀ p ∈ nw, p.1 ≠ b) ?_ (n + 1)
    ⟨0, vs, nw, rfl, Nat.zero_le _, S₀, h0, st0, fun b hb => notMem_of_ge S (hwr b hb)⟩
  rintro m s' ⟨k, vs₁, nw₁, rfl, hkn, S₁, I₁, st₁, hw₁⟩
  by_cases hlt : k < n
  · refine wpAny_with_toks S₁.tk (W.item k s' _ _ hlt st₁ fun v h₂ tk₂ hv st₂ hk₂ ht₂ => ?_)
    have S₂ : St c pin vs₁ nw₁ { s' with heap := h₂, toks := tk₂ } := S₁.extBut hk₂ hw₁ ht₂
    refine hgo (k + 1) _ v _ _ st₂ hv ?_
    refine wpAny_mono ((turn k v vs₁ nw₁ hlt hv I₁).use (pin := fun b o => pin b o ∨ (b ∈ wr ∧ h₂.get? b = some o ∧ b ≠ 53)) ?_) (fun _ s₃ h₃ => ?_) fun _ _ x => x.elim
    · refine S₂.pinMore (fun b o q => ?_) fun b o q => .inl q
      rcases q with q | ⟨q1, q2, q3⟩
      · exact .inl q
      · exact .inr ⟨q2, Nat.ne_of_gt (hw₁ b q1).1, q3, (hw₁ b q1).2.2⟩
    · obtain ⟨vs', nw', S₃, h₃⟩ := h₃
      refine wpAny_mono (h₃.use S₃) (fun f s₄ h₄ => ?_) fun _ _ x => x.elim
      obtain ⟨vs₄, nw₄, S₄, h₄⟩ := h₄
      have S₅ : St c pin vs₄ nw₄ s₄ := S₄.pinLess (fun b o q => .inl q) S₁.ro
      have go : I (k + 1) vs₄ nw₄ → ∃ m, m < n + 1 - k ∧ ∃ k' vs nw, m = n + 1 - k' ∧ k' ≤ n ∧ St c pin vs nw s₄ ∧ I k' vs nw ∧ St₀ k' s₄.heap ∧ ∀ b ∈ wr, c.env.locals < b ∧ (∀ o, ¬ pin b o) ∧ ∀ p ∈ nw, p.1 ≠ b := by
        intro I₄
        refine ⟨n + 1 - (k + 1), by omega, k + 1, vs₄, nw₄, rfl, hlt, S₅, I₄, W.frame _ _ _ st₂ fun b hb o e => ?_, fun b hb => ⟨(hw₁ b hb).1, (hw₁ b hb).2.1, fun p hp e => ?_⟩⟩
        · rcases hfp b hb with hm | ⟨o', ho'⟩
          · exact S₄.pinned b o (.inr ⟨hm, e, hi_ne (Nat.le_trans c.low (Nat.le_of_lt (hw₁ b hm).1))⟩)
          · have g1 := (S₂.get (hext k vs₁ nw₁ I₁ _ ho')).1
            have g2 := (S₅.get (hext (k + 1) vs₄ nw₄ I₄ _ ho')).1
            have : o = o' := Option.some.inj (e.symm.trans g1)
            rw [this]; exact g2
        · -- an owned object is not pinned, the iterator's are
          obtain ⟨o, hq⟩ := hex _ _ st₂ b hb
          exact (S₄.nwA p hp).2 o (e ▸ .inr ⟨hb, hq, hi_ne (Nat.le_trans c.low (Nat.le_of_lt (hw₁ b hb).1))⟩)
      cases f with
      | next => exact go h₄
      | cont => exact go h₄
      | brk => exact ⟨_, vs₄, nw₄, rfl, S₅, h₄⟩
      | ret v => exact ⟨_, vs₄, nw₄, rfl, S₅, h₄⟩
  · have hkn' : k = n := by omega
    subst hkn'
    exact wpAny_with_toks S₁.tk (W.done s' _ _ st₁ fun h₂ tk₂ hk₂ ht₂ => wpAny_execs_nil ⟨_, vs₁, nw₁, rfl, S₁.extBut hk₂ hw₁ ht₂, fin vs₁ nw₁ I₁⟩)

theorem for_tupleT {target : Expr} {body : List Stmt} {Q : Flow → Vs → Nw → Prop} (I : Nat → Vs → Nw → Prop) (h0 : I 0 vs nw) (hh0 : Has c nw l (tupOf xs)) (hh : ∀ k vs nw, I k vs nw → Has c nw l (tupOf xs))
    (turn : ∀ k v vs nw, xs[k]? = some v → I k vs nw → Do c (assign target c.env v) (fun _ => Do c (execs body c.env) (bodyQ I k Q)) vs nw)
    (fin : ∀ vs nw, I xs.length vs nw → Q .next vs nw) : ForAt c target body (.ref l) Q vs nw := by
  refine for_walkT (n := xs.toArray.size) (P := fun i v => xs.toArray[i]? = some v) [(l, tupOf xs)] I (fun pin s St => ?_) h0 (fun k vs nw hI p hp => ?_) (fun k v vs nw hk hv hI => ?_) (fun vs nw hI => fin vs nw (by simpa using hI))
  · have hl : s.heap.IsTuple l xs.toArray := isT St hh0
    have hlt : l < s.heap.objs.size := Heap.lt_size (St.get hh0).1
    refine wpAny_pyIter_tuple hl ⟨_, [s.heap.objs.size, l], [s.heap.objs.size], _, _, _, rfl, rfl, Walks.tuple c.hh s.heap.objs.size l (Nat.ne_of_lt hlt) xs.toArray, ⟨⟨_, Heap.get?_push_size _ rfl, rfl, rfl⟩, hl.push _⟩, fun b o e => Heap.get?_push_of_some _ e, fun b hb => ?_, fun b hb => ?_, fun k h st b hb => ?_, fun k s' v Q' E' st hv hq => ?_⟩
    · rw [List.mem_singleton.mp hb]; exact Nat.le_refl _
    · rcases List.mem_cons.mp hb with rfl | hb
      · exact .inl (.head _)
      · rw [List.mem_singleton.mp hb]; exact .inr ⟨_, .head _⟩
    · rw [List.mem_singleton.mp hb]; obtain ⟨o, e, _⟩ := st.1; exact ⟨o, e⟩
    · exact go_tupleiter st.1 hq
  · rw [List.mem_singleton.mp hp]; exact hh k vs nw hI
  · exact turn k v vs nw (by simpa using hv) hI
end
end Mine
end

section
set_option maxRecDepth 100000
set_option linter.unusedVariables false
namespace Mine

/-! tokens of a text: runs of figures (left) and of other signs (right), between separators -/
noncomputable def isDig (c : Nat) : Bool := Nat.ble 48 c && Nat.ble c 57
noncomputable def isSep (c : Nat) : Bool := c == 46 || c == 95 || c == 43 || c == 45
noncomputable def isWd (c : Nat) : Bool := !isDig c && !isSep c
noncomputable abbrev Tk := List Nat ⊕ List Nat

noncomputable def tks : Nat → List Nat → List Tk
  | 0, _ => []
  | _ + 1, [] => []
  | n + 1, c :: r => if isDig c then .inl (c :: r.takeWhile isDig) :: tks n (r.dropWhile isDig) else if isSep c then tks n r else .inr (c :: r.takeWhile isWd) :: tks n (r.dropWhile isWd)
noncomputable def tk (a : List Nat) : List Tk := tks a.length a

theorem dw_len (p : Nat → Bool) (l : List Nat) : (l.dropWhile p).length ≤ l.length := (List.dropWhile_sublist p).length_le
theorem tks_fuel : ∀ (n m : Nat) (a : List Nat), a.length ≤ n → a.length ≤ m → tks n a = tks m a
  | n, m, [], _, _ => by cases n <;> cases m <;> rfl
  | 0, _, _ :: _, h, _ => by simp at h
  | _ + 1, 0, _ :: _, _, h => by simp at h
  | n + 1, m + 1, c :: r, h1, h2 => by
    simp only [List.length_cons] at h1 h2
    have d1 := dw_len isDig r
    have d2 := dw_len isWd r
    simp only [tks]
    rw [tks_fuel n m (r.dropWhile isDig) (by omega) (by omega), tks_fuel n m r (by omega) (by omega), tks_fuel n m (r.dropWhile isWd) (by omega) (by omega)]
theorem tk_nil : tk [] = [] := rfl
theorem tk_dig {c : Nat} {r : List Nat} (h : isDig c = true) : tk (c :: r) = .inl (c :: r.takeWhile isDig) :: tk (r.dropWhile isDig) := by
  show tks (r.length + 1) (c :: r) = _
  simp only [tks, h, if_true]
  rw [tks_fuel r.length (r.dropWhile isDig).length _ (dw_len _ _) (Nat.le_refl _)]; rfl
theorem tk_sep {c : Nat} {r : List Nat} (h : isSep c = true) (hd : isDig c = false) : tk (c :: r) = tk r := by
  show tks (r.length + 1) (c :: r) = _
  simp only [tks, h, hd, if_true, Bool.false_eq_true, if_false]; rfl
theorem tk_wd {c : Nat} {r : List Nat} (h : isWd c = true) : tk (c :: r) = .inr (c :: r.takeWhile isWd) :: tk (r.dropWhile isWd) := by
  have h' : isDig c = false ∧ isSep c = false := by unfold isWd at h; simpa using h
  show tks (r.length + 1) (c :: r) = _
  simp only [tks, h'.1, h'.2, Bool.false_eq_true, if_false]
  rw [tks_fuel r.length (r.dropWhile isWd).length _ (dw_len _ _) (Nat.le_refl _)]; rfl
theorem sep_not_dig {c : Nat} (h : isSep c = true) : isDig c = false := by
  unfold isSep at h; unfold isDig
  simp only [Bool.or_eq_true, beq_iff_eq] at h
  rcases h with ((rfl | rfl) | rfl) | rfl <;> rfl
theorem sep_not_wd {c : Nat} (h : isSep c = true) : isWd c = false := by unfold isWd; rw [h]; simp
theorem kinds (c : Nat) : (isDig c = true) ∨ (isSep c = true ∧ isDig c = false) ∨ (isWd c = true) := by
  unfold isWd
  cases h1 : isDig c
  · cases h2 : isSep c
    · exact .inr (.inr rfl)
    · exact .inr (.inl ⟨rfl, rfl⟩)
  · exact .inl rfl

theorem tw_app_stop {p : Nat → Bool} {u v : List Nat} {s : Nat} (hs : p s = false) : (u ++ s :: v).takeWhile p = u.takeWhile p := by
  induction u with
  | nil => simp [hs]
  | cons x u ih => simp only [List.cons_append, List.takeWhile_cons]; split <;> simp [ih]
theorem dw_app_stop {p : Nat → Bool} {u v : List Nat} {s : Nat} (hs : p s = false) : (u ++ s :: v).dropWhile p = u.dropWhile p ++ s :: v := by
  induction u with
  | nil => simp [hs]
  | cons x u ih => simp only [List.cons_append, List.dropWhile_cons]; split <;> simp [ih]
/-- a separator cuts -/
theorem tk_cut {s : Nat} (hs : isSep s = true) (v : List Nat) : ∀ (n : Nat) (u : List Nat), u.length ≤ n → tk (u ++ s :: v) = tk u ++ tk v
  | _, [], _ => by rw [List.nil_append, tk_sep hs (sep_not_dig hs)]; rfl
  | 0, _ :: _, h => by simp at h
  | n + 1, c :: r, h => by
    simp only [List.length_cons] at h
    have d1 := dw_len isDig r
    have d2 := dw_len isWd r
    rw [List.cons_append]
    rcases kinds c with hc | ⟨hc, hd⟩ | hc
    · rw [tk_dig hc, tk_dig hc, tw_app_stop (sep_not_dig hs), dw_app_stop (sep_not_dig hs), tk_cut hs v n _ (by omega)]; rfl
    · rw [tk_sep hc hd, tk_sep hc hd, tk_cut hs v n r (by omega)]
    · rw [tk_wd hc, tk_wd hc, tw_app_stop (sep_not_wd hs), dw_app_stop (sep_not_wd hs), tk_cut hs v n _ (by omega)]; rfl
theorem tk_app {s : Nat} (hs : isSep s = true) (u v : List Nat) : tk (u ++ s :: v) = tk u ++ tk v := tk_cut hs v u.length u (Nat.le_refl _)

noncomputable def valOf (l : List Nat) : Nat := l.foldl (fun v c => 10 * v + (c - 48)) 0
noncomputable def rankOf (a : List Nat) : Int := if a = [97] then 20 else if a = [98] then 30 else if a = [114, 99] then 50 else 0
noncomputable def pairOf : Tk → Int × (Int ⊕ List Nat)
  | .inl d => (100, .inl (valOf d))
  | .inr w => (rankOf w, .inr w)

/-! the second half of the law's reading -/
noncomputable def unk : List Nat := [117, 110, 107, 110, 111, 119, 110]
noncomputable def dashes : List Nat := [45, 47, 92, 58, 59, 34, 40, 41]
noncomputable def sq : Bool → List Nat → List Nat
  | _, [] => []
  | o, c :: r => if c ∈ dashes then sq true r else (if o then [45] else []) ++ (if c = 32 then 95 else c) :: sq false r
noncomputable def sgStep (s : List Nat × Bool) (one : List Nat) : List Nat × Bool := if one != [] then (s.1 ++ (if s.2 then [45] else []) ++ trim (fun c => c == 32 || c == 9) one, true) else s
noncomputable def signsOf (ts : List (List Nat)) : List Nat := (ts.foldl sgStep ([], false)).1
noncomputable def safeOf (ts : List (List Nat)) : List Nat := sq false (replaceL unk [] (signsOf ts))
theorem unk_ne : unk ≠ [] := by decide
theorem sq_len : ∀ (o : Bool) (l : List Nat), (sq o l).length ≤ 2 * l.length
  | _, [] => by simp [sq]
  | o, c :: r => by
    have h1 := sq_len true r
    have h2 := sq_len false r
    simp only [sq]
    split
    · simp only [List.length_cons]; omega
    · split <;> simp <;> omega
theorem repl_nil_len (y : List Nat) : ∀ (n : Nat) (l : List Nat), (repl y [] n l).length ≤ l.length
  | 0, l => by simp [repl]
  | n + 1, [] => by simp [repl]
  | n + 1, c :: r => by
    have h1 := repl_nil_len y n ((c :: r).drop y.length)
    have h2 := repl_nil_len y n r
    simp only [repl]
    split
    · simp only [List.nil_append]
      refine Nat.le_trans h1 ?_
      simp
    · simp only [List.length_cons]; omega
theorem replaceL_nil_len (y l : List Nat) : (replaceL y [] l).length ≤ l.length := repl_nil_len y _ l
theorem trim_len (g : Nat → Bool) (l : List Nat) : (trim g l).length ≤ l.length := by
  unfold trim rtrim
  have h1 := (List.dropWhile_sublist g (l := (l.dropWhile g).reverse)).length_le
  have h2 := (List.dropWhile_sublist g (l := l)).length_le
  simp only [List.length_reverse] at h1 ⊢
  omega
end Mine
end

section
open PySem PySem.W PySem.Calls PySem.Spec PyProof.Rows
set_option maxRecDepth 100000
set_option linter.unusedVariables false
namespace Mine

noncomputable def D_law_rank : Fd := mkFd 220 ["word", "rank", "known"] [] (by intro w; kernel_rfl)
noncomputable def D_law_names : Fd := mkFd 239 ["path", "names", "name", "sign"] [] (by intro w; kernel_rfl)
noncomputable def D_law_walk : Fd := mkFd 246 ["names", "kept", "name"] [] (by intro w; kernel_rfl)
noncomputable def D_law_climb : Fd := mkFd 253 ["path", "tails", "step", "head", "tail"] [("range", .type "range"), ("split", .ref 173)] (by intro w; kernel_rfl)

noncomputable def isTexts (ts : List (List Nat)) (v : Value) (nw : Nw) : Prop := ∃ l xs n, v = .ref l ∧ nw = [(l, lstOf xs n)] ∧ Txs xs ts
noncomputable def isInt (i : Int) (v : Value) (nw : Nw) : Prop := (∃ t, v = .int i t) ∧ nw = []

theorem fn_law_rank (a : List Nat) (t : Tok) : Fn 220 1 [.str (S a) t] [] (isInt (rankOf a)) := by
  refine Fn.of D_law_rank (m := 2) rfl (fun w => by kernel_rfl) fun w A L os rm low => ?_
  refine do_thenQ (fun vs nw => a ≠ [97] ∧ a ≠ [98] ∧ a ≠ [114, 99]) ?_ ?_
  · refine do_For ?_
    refine do_Tuple ?_
    refine do_args ?_
    refine do_Tuple ?_
    refine do_args ?_
    refine do_int fun _ => ?_
    refine do_args ?_
    refine do_S [97] (by decide +kernel) fun _ => ?_
    refine do_args0 ⟨Nat.le_of_ble_eq_true rfl, fun t1 => ?_⟩
    refine do_args ?_
    refine do_Tuple ?_
    refine do_args ?_
    refine do_int fun _ => ?_
    refine do_args ?_
    refine do_S [98] (by decide +kernel) fun _ => ?_
    refine do_args0 ⟨Nat.le_of_ble_eq_true rfl, fun t2 => ?_⟩
    refine do_args ?_
    refine do_Tuple ?_
    refine do_args ?_
    refine do_int fun _ => ?_
    refine do_args ?_
    refine do_S [114, 99] (by decide +kernel) fun _ => ?_
    refine do_args0 ⟨Nat.le_of_ble_eq_true rfl, fun t3 => ?_⟩
    refine do_args0 ⟨Nat.le_of_ble_eq_true rfl, fun tt => ?_⟩
    refine for_tupleT (l := tt) (xs := [.ref t1, .ref t2, .ref t3]) (fun k vs nw => nw = [_, _, _, _] ∧ (∃ x1 x2, vs = [some (.str (S a) t), x1, x2]) ∧ (0 < k → a ≠ [97]) ∧ (1 < k → a ≠ [98]) ∧ (2 < k → a ≠ [114, 99]))
      ⟨rfl, ⟨_, _, rfl⟩, fun h => absurd h (by omega), fun h => absurd h (by omega), fun h => absurd h (by omega)⟩ (.inl (.head _)) (fun k vs nw hI => ?_) (fun k v vs nw hv hI => ?_) (fun vs nw hI => ?_)
    · rw [hI.1]; exact .inl (.head _)
    · obtain ⟨rfl, ⟨x1, x2, rfl⟩, h1, h2, h3⟩ := hI
      refine do_assignT ?_
      rcases k with _ | _ | _ | k
      · have : v = .ref t1 := by simpa using hv.symm
        subst this
        refine do_unpackT (.inl (.tail _ (.tail _ (.tail _ (.head _))))) rfl ?_
        refine do_inOrder (do_assignName (i := 1) rfl ?_)
        refine do_inOrder (do_assignName (i := 2) rfl ?_)
        refine do_inOrder0 ?_
        refine do_cons ?_
        refine do_If ?_
        refine tr_Compare ?_
        refine do_loc 0 rfl rfl ?_
        refine do_loc 2 rfl rfl ?_
        refine eq_ss ⟨_, rfl, fun hT => ?_, fun hF => ?_⟩
        · refine do_cons ?_
          refine do_Return ?_
          refine do_loc 1 rfl rfl ?_
          have : a = [97] := by simpa using hT
          exact ⟨[], List.nil_sublist _, ⟨_, by unfold rankOf; rw [if_pos this]; rfl⟩, rfl⟩
        · refine do_nil ?_
          refine do_nil ?_
          exact ⟨rfl, ⟨_, _, rfl⟩, fun _ => by simpa using hF, fun h => absurd h (by omega), fun h => absurd h (by omega)⟩
      · have : v = .ref t2 := by simpa using hv.symm
        subst this
        refine do_unpackT (.inl (.tail _ (.tail _ (.head _)))) rfl ?_
        refine do_inOrder (do_assignName (i := 1) rfl ?_)
        refine do_inOrder (do_assignName (i := 2) rfl ?_)
        refine do_inOrder0 ?_
        refine do_cons ?_
        refine do_If ?_
        refine tr_Compare ?_
        refine do_loc 0 rfl rfl ?_
        refine do_loc 2 rfl rfl ?_
        refine eq_ss ⟨_, rfl, fun hT => ?_, fun hF => ?_⟩
        · refine do_cons ?_
          refine do_Return ?_
          refine do_loc 1 rfl rfl ?_
          have : a = [98] := by simpa using hT
          exact ⟨[], List.nil_sublist _, ⟨_, by unfold rankOf; rw [if_neg (h1 (by omega)), if_pos this]; rfl⟩, rfl⟩
        · refine do_nil ?_
          refine do_nil ?_
          exact ⟨rfl, ⟨_, _, rfl⟩, fun _ => h1 (by omega), fun h => by simpa using hF, fun h => absurd h (by omega)⟩
      · have : v = .ref t3 := by simpa using hv.symm
        subst this
        refine do_unpackT (.inl (.tail _ (.head _))) rfl ?_
        refine do_inOrder (do_assignName (i := 1) rfl ?_)
        refine do_inOrder (do_assignName (i := 2) rfl ?_)
        refine do_inOrder0 ?_
        refine do_cons ?_
        refine do_If ?_
        refine tr_Compare ?_
        refine do_loc 0 rfl rfl ?_
        refine do_loc 2 rfl rfl ?_
        refine eq_ss ⟨_, rfl, fun hT => ?_, fun hF => ?_⟩
        · refine do_cons ?_
          refine do_Return ?_
          refine do_loc 1 rfl rfl ?_
          have : a = [114, 99] := by simpa using hT
          exact ⟨[], List.nil_sublist _, ⟨_, by unfold rankOf; rw [if_neg (h1 (by omega)), if_neg (h2 (by omega)), if_pos this]; rfl⟩, rfl⟩
        · refine do_nil ?_
          refine do_nil ?_
          exact ⟨rfl, ⟨_, _, rfl⟩, fun _ => h1 (by omega), fun h => h2 (by omega), fun h => by simpa using hF⟩
      · simp at hv
    · exact ⟨hI.2.2.1 (by simp), hI.2.2.2.1 (by simp), hI.2.2.2.2 (by simp)⟩
  · rintro vs nw ⟨h1, h2, h3⟩
    refine do_cons ?_
    refine do_Return ?_
    refine do_int fun _ => ?_
    exact ⟨[], List.nil_sublist _, ⟨_, by unfold rankOf; rw [if_neg h1, if_neg h2, if_neg h3]; rfl⟩, rfl⟩

/-! names -/
noncomputable def nmStep (s : List (List Nat) × List Nat) (ch : Nat) : List (List Nat) × List Nat := if ch != 47 then (s.1, s.2 ++ [ch]) else if s.2 != [] then (s.1 ++ [s.2], []) else s
noncomputable def namesOf (a : List Nat) : List (List Nat) := ((a ++ [47]).foldl nmStep ([], [])).1
theorem nmStep_len (s : List (List Nat) × List Nat) (ch : Nat) : (nmStep s ch).1.length ≤ s.1.length + 1 ∧ (nmStep s ch).2.length ≤ s.2.length + 1 := by
  unfold nmStep
  split
  · simp
  · split <;> simp
theorem nm_len : ∀ (l : List Nat) (s : List (List Nat) × List Nat), (l.foldl nmStep s).1.length ≤ s.1.length + l.length ∧ (l.foldl nmStep s).2.length ≤ s.2.length + l.length
  | [], s => by simp
  | x :: l, s => by
    have h1 := nm_len l (nmStep s x)
    have h2 := nmStep_len s x
    simp only [List.foldl_cons, List.length_cons]; omega
theorem take_fold {α β : Type} {f : β → α → β} {b : β} {l : List α} {k : Nat} {x : α} (h : l[k]? = some x) : (l.take (k + 1)).foldl f b = f ((l.take k).foldl f b) x := by
  obtain ⟨hlt, he⟩ := List.getElem?_eq_some_iff.mp h
  rw [List.take_succ_eq_append_getElem hlt, List.foldl_append, he]; rfl

noncomputable def nmAt (a : List Nat) (k : Nat) : List (List Nat) × List Nat := ((a ++ [47]).take k).foldl nmStep ([], [])

theorem fn_law_names (a : List Nat) (t : Tok) (ha : a.length ≤ 100000) : Fn 239 1 [.str (S a) t] [] (isTexts (namesOf a)) := by
  refine Fn.of D_law_names (m := 3) rfl (fun w => by kernel_rfl) fun w A L os rm low => ?_
  refine do_cons ?_
  refine do_Assign (i := 1) rfl ?_
  refine do_List ?_
  refine do_args0 ⟨Nat.le_of_ble_eq_true rfl, fun nl => ?_⟩
  refine do_cons ?_
  refine do_Assign (i := 2) rfl ?_
  refine do_S [] (by decide +kernel) fun _ => ?_
  refine do_cons ?_
  refine do_For ?_
  refine do_BinOp ?_
  refine do_loc 0 rfl rfl ?_
  refine do_S [47] (by decide +kernel) fun _ => ?_
  refine add_ss (by simp; omega) fun _ => ?_
  refine for_str (i := 3) rfl (fun k vs nw => ∃ xs n u x3, Txs xs (nmAt a k).1 ∧ vs = [some (.str (S a) t), some (.ref nl), some (.str (S (nmAt a k).2) u), x3] ∧ nw = [(nl, lstOf xs n)])
    ⟨[], 0, _, _, All2.nil, rfl, rfl⟩ (fun k ch tc vs nw hv hI => ?_) (fun vs nw hI => ?_)
  · obtain ⟨xs, n, u, x3, hxs, rfl, rfl⟩ := hI
    try refine Do.opq fun _ hQ => ?_
    have hnx : nmAt a (k + 1) = nmStep (nmAt a k) ch := take_fold (f := nmStep) (b := ([], [])) hv
    have hl : (nmAt a k).1.length ≤ _ ∧ (nmAt a k).2.length ≤ _ := nm_len ((a ++ [47]).take k) ([], [])
    have hk : ((a ++ [47]).take k).length ≤ a.length + 1 := by simp; omega
    have hxl := hxs.len
    generalize nmAt a k = st at hxs hnx hl hxl
    simp only [List.length_nil, Nat.zero_add] at hl
    refine do_cons ?_
    refine do_If ?_
    refine tr_Compare ?_
    refine do_loc 3 rfl rfl ?_
    refine do_S [47] (by decide +kernel) fun _ => ?_
    refine ne_ss ⟨_, rfl, fun hT => ?_, fun hF => ?_⟩
    · refine do_cons ?_
      refine do_Aug (i := 2) rfl rfl ?_
      refine do_loc 3 rfl rfl ?_
      refine iadd_ss (by simp; omega) fun _ => ?_
      refine do_nil ?_
      refine do_nil ?_
      have e : nmStep st ch = (st.1, st.2 ++ [ch]) := by unfold nmStep; rw [if_pos (by simpa using hT)]
      first | exact ⟨xs, n, _, _, by rw [hnx, e]; exact hxs, by rw [hnx, e]; rfl, rfl⟩ | exact hQ _ _ _ ⟨xs, n, _, _, by rw [hnx, e]; exact hxs, by rw [hnx, e]; rfl, rfl⟩ | exact hJ _ _ _ ⟨xs, n, _, _, by rw [hnx, e]; exact hxs, by rw [hnx, e]; rfl, rfl⟩ | exact hQ _ _ _ (hJ _ _ _ ⟨xs, n, _, _, by rw [hnx, e]; exact hxs, by rw [hnx, e]; rfl, rfl⟩)
    · have hch : ch = 47 := by simpa using hF
      refine do_cons ?_
      refine do_If ?_
      refine tr_Compare ?_
      refine do_loc 2 rfl rfl ?_
      refine do_S [] (by decide +kernel) fun _ => ?_
      refine ne_ss ⟨_, rfl, fun hT => ?_, fun hF => ?_⟩
      · refine do_cons ?_
        refine do_Expr ?_
        refine do_Meth F.plainAttrs_list F.slot_list_append F.type_list_append ?_
        refine do_loc 1 rfl rfl ?_
        first | refine ⟨.list (.inl (.head _)), ?_⟩ | refine hQ _ _ _ ⟨.list (.inl (.head _)), ?_⟩ | refine hJ _ _ _ ⟨.list (.inl (.head _)), ?_⟩ | refine hQ _ _ _ (hJ _ _ _ ⟨.list (.inl (.head _)), ?_⟩)
        refine do_args ?_
        refine do_loc 2 rfl rfl ?_
        refine do_args0 ?_
        refine m_append (k := 0) rfl (by omega) (ret_none ?_)
        refine do_cons ?_
        refine do_Assign (i := 2) rfl ?_
        refine do_S [] (by decide +kernel) fun _ => ?_
        refine do_nil ?_
        refine do_nil ?_
        refine do_nil ?_
        have e : nmStep st ch = (st.1 ++ [st.2], []) := by unfold nmStep; rw [if_neg (by simp [hch]), if_pos hT]
        first | exact ⟨_, _, _, _, by rw [hnx, e]; exact hxs.snoc, by rw [hnx, e]; rfl, rfl⟩ | exact hQ _ _ _ ⟨_, _, _, _, by rw [hnx, e]; exact hxs.snoc, by rw [hnx, e]; rfl, rfl⟩ | exact hJ _ _ _ ⟨_, _, _, _, by rw [hnx, e]; exact hxs.snoc, by rw [hnx, e]; rfl, rfl⟩ | exact hQ _ _ _ (hJ _ _ _ ⟨_, _, _, _, by rw [hnx, e]; exact hxs.snoc, by rw [hnx, e]; rfl, rfl⟩)
      · refine do_nil ?_
        refine do_nil ?_
        refine do_nil ?_
        have e : nmStep st ch = st := by unfold nmStep; rw [if_neg (by simp [hch]), if_neg (by rw [hF]; decide)]
        first | exact ⟨_, _, _, _, by rw [hnx, e]; exact hxs, by rw [hnx, e]; rfl, rfl⟩ | exact hQ _ _ _ ⟨_, _, _, _, by rw [hnx, e]; exact hxs, by rw [hnx, e]; rfl, rfl⟩ | exact hJ _ _ _ ⟨_, _, _, _, by rw [hnx, e]; exact hxs, by rw [hnx, e]; rfl, rfl⟩ | exact hQ _ _ _ (hJ _ _ _ ⟨_, _, _, _, by rw [hnx, e]; exact hxs, by rw [hnx, e]; rfl, rfl⟩)
  · obtain ⟨xs, n, u, x3, hxs, rfl, rfl⟩ := hI
    try refine Do.opq fun _ hQ => ?_
    have hfin : nmAt a (a ++ [47]).length = (a ++ [47]).foldl nmStep ([], []) := by unfold nmAt; rw [List.take_length]
    rw [hfin] at hxs
    refine do_cons ?_
    refine do_Return ?_
    refine do_loc 1 rfl rfl ?_
    first | exact ⟨_, sub1, _, _, _, rfl, rfl, hxs⟩ | exact hQ _ _ _ ⟨_, sub1, _, _, _, rfl, rfl, hxs⟩ | exact hJ _ _ _ ⟨_, sub1, _, _, _, rfl, rfl, hxs⟩ | exact hQ _ _ _ (hJ _ _ _ ⟨_, sub1, _, _, _, rfl, rfl, hxs⟩)

/-! walk -/
noncomputable def wkStep (s : List (List Nat)) (x : List Nat) : List (List Nat) := if x == [46, 46] then s.dropLast else if x != [46] then s ++ [x] else s
noncomputable def walkOf (ts : List (List Nat)) : List (List Nat) := ts.foldl wkStep []
theorem wk_len : ∀ (l s : List (List Nat)), (l.foldl wkStep s).length ≤ s.length + l.length
  | [], s => by simp
  | x :: l, s => by
    have h1 := wk_len l (wkStep s x)
    have h2 : (wkStep s x).length ≤ s.length + 1 := by
      unfold wkStep
      split
      · simp; omega
      · split <;> simp
    simp only [List.foldl_cons, List.length_cons]; omega
theorem Txs.dropLast {vs : List Value} {ts : List (List Nat)} (h : Txs vs ts) : Txs vs.dropLast ts.dropLast := by
  by_cases hne : ts = []
  · subst hne
    cases h; exact All2.nil
  · obtain ⟨ws, a, t, rfl, h2, _⟩ := h.pop hne
    rw [List.dropLast_concat]; exact h2

theorem fn_law_walk (l : Addr) (xs : List Value) (n : Nat) (ts : List (List Nat)) (hx : Txs xs ts) (hl : ts.length ≤ 100000) : Fn 246 1 [.ref l] [(l, lstOf xs n)] (isTexts (walkOf ts)) := by
  refine Fn.of D_law_walk (m := 2) rfl (fun w => by kernel_rfl) fun w A L os rm low => ?_
  have hro : ∀ nw, Has (D_law_walk.cx w A L [(l, lstOf xs n)] os 0 rm low) nw l (lstOf xs n) := fun nw => .inr (.head _)
  refine do_cons ?_
  refine do_Assign (i := 1) rfl ?_
  refine do_List ?_
  refine do_args0 ⟨Nat.le_of_ble_eq_true rfl, fun kl => ?_⟩
  refine do_cons ?_
  refine do_For ?_
  refine do_loc 0 rfl rfl ?_
  have hxl := hx.len
  refine for_list (i := 2) (l := l) (xs := xs) (n := n) rfl (fun k vs nw => ∃ kl ys m x2 rest, Txs ys ((ts.take k).foldl wkStep []) ∧ vs = [some (.ref l), some (.ref kl), x2] ∧ nw = (kl, lstOf ys m) :: rest)
    ⟨kl, [], 0, _, [], All2.nil, rfl, rfl⟩ (hro _) (fun k vs nw _ => hro _) (fun k v vs nw hv hI => ?_) (fun vs nw hI => ?_)
  · obtain ⟨kl, ys, m, x2, rest, hys, rfl, rfl⟩ := hI
    try refine Do.opq fun _ hQ => ?_
    obtain ⟨x, tx, hxk, rfl⟩ := hx.get hv
    have hnx := take_fold (f := wkStep) (b := []) hxk
    have hwl := wk_len (ts.take k) []
    have hkl : (ts.take k).length ≤ ts.length := by simp; omega
    have hyl := hys.len
    generalize (ts.take k).foldl wkStep [] = st at hys hnx hwl hyl
    simp only [List.length_nil, Nat.zero_add] at hwl
    refine do_cons ?_
    refine do_If ?_
    refine tr_Compare ?_
    refine do_loc 2 rfl rfl ?_
    refine do_S [46, 46] (by decide +kernel) fun _ => ?_
    refine eq_ss ⟨_, rfl, fun hT => ?_, fun hF => ?_⟩
    · refine do_cons ?_
      refine do_Assign (i := 1) rfl ?_
      refine do_SliceL ?_
      refine do_loc 1 rfl rfl ?_
      refine do_part0 ?_
      refine do_part ?_
      refine do_UnaryOp ?_
      refine do_int fun _ => ?_
      refine neg_i fun _ => ?_
      refine do_part0 ?_
      first | refine ⟨_, ys, m, none, some (-1), none, rfl, .inl (.head _), .none, .int _ _, .none, by simp, by omega, fun kl2 => ?_⟩ | refine hQ _ _ _ ⟨_, ys, m, none, some (-1), none, rfl, .inl (.head _), .none, .int _ _, .none, by simp, by omega, fun kl2 => ?_⟩ | refine hJ _ _ _ ⟨_, ys, m, none, some (-1), none, rfl, .inl (.head _), .none, .int _ _, .none, by simp, by omega, fun kl2 => ?_⟩ | refine hQ _ _ _ (hJ _ _ _ ⟨_, ys, m, none, some (-1), none, rfl, .inl (.head _), .none, .int _ _, .none, by simp, by omega, fun kl2 => ?_⟩)
      refine do_nil ?_
      refine do_nil ?_
      first | refine ⟨kl2, _, _, _, _, ?_, rfl, rfl⟩ | refine hQ _ _ _ ⟨kl2, _, _, _, _, ?_, rfl, rfl⟩ | refine hJ _ _ _ ⟨kl2, _, _, _, _, ?_, rfl, rfl⟩ | refine hQ _ _ _ (hJ _ _ _ ⟨kl2, _, _, _, _, ?_, rfl, rfl⟩)
      rw [hnx]; unfold wkStep; rw [if_pos hT, slicePick_cut, cut_butlast]; exact hys.dropLast
    · refine do_cons ?_
      refine do_If ?_
      refine tr_Compare ?_
      refine do_loc 2 rfl rfl ?_
      refine do_S [46] (by decide +kernel) fun _ => ?_
      refine ne_ss ⟨_, rfl, fun hT => ?_, fun hF2 => ?_⟩
      · refine do_cons ?_
        refine do_Assign (i := 1) rfl ?_
        refine do_BinOp ?_
        refine do_loc 1 rfl rfl ?_
        refine do_List ?_
        refine do_args ?_
        refine do_loc 2 rfl rfl ?_
        refine do_args0 ⟨Nat.le_of_ble_eq_true rfl, fun ol => ?_⟩
        refine add_LL (.inl (.tail _ (.head _))) (.inl (.head _)) (by simp; omega) fun kl2 => ?_
        refine do_nil ?_
        refine do_nil ?_
        refine do_nil ?_
        first | refine ⟨kl2, _, _, _, _, ?_, rfl, rfl⟩ | refine hQ _ _ _ ⟨kl2, _, _, _, _, ?_, rfl, rfl⟩ | refine hJ _ _ _ ⟨kl2, _, _, _, _, ?_, rfl, rfl⟩ | refine hQ _ _ _ (hJ _ _ _ ⟨kl2, _, _, _, _, ?_, rfl, rfl⟩)
        rw [hnx]; unfold wkStep; rw [if_neg (by rw [hF]; decide), if_pos hT]; exact hys.snoc
      · refine do_nil ?_
        refine do_nil ?_
        refine do_nil ?_
        first | refine ⟨kl, _, _, _, _, ?_, rfl, rfl⟩ | refine hQ _ _ _ ⟨kl, _, _, _, _, ?_, rfl, rfl⟩ | refine hJ _ _ _ ⟨kl, _, _, _, _, ?_, rfl, rfl⟩ | refine hQ _ _ _ (hJ _ _ _ ⟨kl, _, _, _, _, ?_, rfl, rfl⟩)
        rw [hnx]; unfold wkStep; rw [if_neg (by rw [hF]; decide), if_neg (by rw [hF2]; decide)]; exact hys
  · obtain ⟨kl, ys, m, x2, rest, hys, rfl, rfl⟩ := hI
    try refine Do.opq fun _ hQ => ?_
    rw [hxl, List.take_length] at hys
    refine do_cons ?_
    refine do_Return ?_
    refine do_loc 1 rfl rfl ?_
    first | exact ⟨_, sub1, _, _, _, rfl, rfl, hys⟩ | exact hQ _ _ _ ⟨_, sub1, _, _, _, rfl, rfl, hys⟩ | exact hJ _ _ _ ⟨_, sub1, _, _, _, rfl, rfl, hys⟩ | exact hQ _ _ _ (hJ _ _ _ ⟨_, sub1, _, _, _, rfl, rfl, hys⟩)

/-! climb -/
noncomputable def climb : Nat → List Nat → List (List Nat) → List (List Nat)
  | 0, _, acc => acc
  | n + 1, p, acc => if headOf p = p then acc else climb n (headOf p) (if tailOf p = [] then acc else acc ++ [tailOf p])
noncomputable def climbOf (a : List Nat) : List (List Nat) := (climb 60 a []).reverse
theorem Txs.reverse {vs : List Value} {ts : List (List Nat)} (h : Txs vs ts) : Txs vs.reverse ts.reverse := by
  induction h with
  | nil => exact All2.nil
  | cons a _ ih => rw [List.reverse_cons, List.reverse_cons]; exact Txs.app ih (All2.cons a All2.nil)
theorem rtrim_len (g : Nat → Bool) (a : List Nat) : (rtrim g a).length ≤ a.length := by
  unfold rtrim
  have := (List.dropWhile_sublist g (l := a.reverse)).length_le
  simpa using this
theorem headOf_len (a : List Nat) : (headOf a).length ≤ a.length := by
  have h := cutLast_len 47 a
  have := rtrim_len (· == 47) (cutLast 47 a).1
  unfold headOf
  split <;> omega

theorem fn_law_climb (a : List Nat) (t : Tok) (ha : a.length ≤ 100000) : Fn 253 3 [.str (S a) t] [] (isTexts (climbOf a)) := by
  refine Fn.of D_law_climb (m := 4) rfl (fun w => by kernel_rfl) fun w A L os rm low => ?_
  refine do_cons ?_
  refine do_Assign (i := 1) rfl ?_
  refine do_List ?_
  refine do_args0 ⟨Nat.le_of_ble_eq_true rfl, fun tl => ?_⟩
  refine do_thenQ (fun vs nw => ∃ ys m x0 x2 x3 x4 rest, Txs ys (climb 60 a []) ∧ ys.length ≤ 60 ∧ vs = [x0, some (.ref tl), x2, x3, x4] ∧ nw = rest ++ [(tl, lstOf ys m)]) ?_ ?_
  · refine Do.opq fun _ hJ => ?_
    refine do_For ?_
    refine do_CallT 0 rfl ?_
    refine do_args ?_
    refine do_int fun _ => ?_
    refine do_args0 ?_
    refine do_range1 fun ra t1 t2 => ?_
    refine for_range (i := 2) (k := 60) rfl (fun k vs nw => ∃ p acc ys m u x2 x3 x4, p.length ≤ a.length ∧ climb (60 - k) p acc = climb 60 a [] ∧ Txs ys acc ∧ ys.length ≤ k ∧ k ≤ 60 ∧ vs = [some (.str (S p) u), some (.ref tl), x2, x3, x4] ∧ nw = [(ra, rngOf 60 _ t1 t2), (tl, lstOf ys m)])
      ⟨a, [], [], 0, _, _, _, _, Nat.le_refl _, rfl, All2.nil, Nat.le_refl _, by decide, rfl, rfl⟩ (.inl (.head _)) (by decide) (fun k tk vs nw hk hI => ?_) (fun vs nw hI => ?_)
    · obtain ⟨p, acc, ys, m, u, x2, x3, x4, hp, hc, hys, hyl, hk60, rfl, rfl⟩ := hI
      try refine Do.opq fun _ hQ => ?_
      have hc' : (if headOf p = p then acc else climb (60 - (k + 1)) (headOf p) (if tailOf p = [] then acc else acc ++ [tailOf p])) = climb 60 a [] := by
        rw [← hc, show 60 - k = (60 - (k + 1)) + 1 from by omega]; rfl
      refine do_cons ?_
      refine do_AssignTuple ?_
      refine do_CallF D_split 1 rfl ?_
      refine do_args ?_
      refine do_loc 0 rfl rfl ?_
      refine do_args0 ?_
      refine do_fn (fn_split _ _ (by omega)) rfl no_ro ?_
      rintro v nw' ⟨tp, u1, u2, rfl, rfl⟩
      refine do_assignT ?_
      refine do_unpackT (.inl (.head _)) rfl ?_
      refine do_inOrder (do_assignName (i := 3) rfl ?_)
      refine do_inOrder (do_assignName (i := 4) rfl ?_)
      refine do_inOrder0 ?_
      refine Do.drop (nw' := [(ra, rngOf 60 _ t1 t2), (tl, lstOf ys m)]) ?_ (List.sublist_cons_self _ _)
      refine do_cons ?_
      refine do_If ?_
      refine tr_Compare ?_
      refine do_loc 3 rfl rfl ?_
      refine do_loc 0 rfl rfl ?_
      refine eq_ss ⟨_, rfl, fun hT => ?_, fun hF => ?_⟩
      · refine do_cons ?_
        refine do_Break ?_
        rw [if_pos (by simpa using hT)] at hc'
        first | exact ⟨ys, m, _, _, _, _, [(ra, rngOf 60 _ t1 t2)], hc' ▸ hys, by omega, rfl, rfl⟩ | exact hQ _ _ _ ⟨ys, m, _, _, _, _, [(ra, rngOf 60 _ t1 t2)], hc' ▸ hys, by omega, rfl, rfl⟩ | exact hJ _ _ _ ⟨ys, m, _, _, _, _, [(ra, rngOf 60 _ t1 t2)], hc' ▸ hys, by omega, rfl, rfl⟩ | exact hQ _ _ _ (hJ _ _ _ ⟨ys, m, _, _, _, _, [(ra, rngOf 60 _ t1 t2)], hc' ▸ hys, by omega, rfl, rfl⟩)
      · rw [if_neg (by simpa using hF)] at hc'
        have hhl := headOf_len p
        refine do_nil ?_
        refine do_cons ?_
        refine do_Assign (i := 0) rfl ?_
        refine do_loc 3 rfl rfl ?_
        refine do_cons ?_
        refine do_If ?_
        refine tr_Compare ?_
        refine do_loc 4 rfl rfl ?_
        refine do_S [] (by decide +kernel) fun _ => ?_
        refine ne_ss ⟨_, rfl, fun hT => ?_, fun hF2 => ?_⟩
        · rw [if_neg (by simpa using hT)] at hc'
          refine do_cons ?_
          refine do_Expr ?_
          refine do_Meth F.plainAttrs_list F.slot_list_append F.type_list_append ?_
          refine do_loc 1 rfl rfl ?_
          first | refine ⟨.list (.inl (.tail _ (.head _))), ?_⟩ | refine hQ _ _ _ ⟨.list (.inl (.tail _ (.head _))), ?_⟩ | refine hJ _ _ _ ⟨.list (.inl (.tail _ (.head _))), ?_⟩ | refine hQ _ _ _ (hJ _ _ _ ⟨.list (.inl (.tail _ (.head _))), ?_⟩)
          refine do_args ?_
          refine do_loc 4 rfl rfl ?_
          refine do_args0 ?_
          refine m_append (k := 1) rfl (by omega) (ret_none ?_)
          refine do_nil ?_
          refine do_nil ?_
          first | exact ⟨headOf p, _, _, _, _, _, _, _, by omega, hc', hys.snoc, by simp; omega, by omega, rfl, rfl⟩ | exact hQ _ _ _ ⟨headOf p, _, _, _, _, _, _, _, by omega, hc', hys.snoc, by simp; omega, by omega, rfl, rfl⟩ | exact hJ _ _ _ ⟨headOf p, _, _, _, _, _, _, _, by omega, hc', hys.snoc, by simp; omega, by omega, rfl, rfl⟩ | exact hQ _ _ _ (hJ _ _ _ ⟨headOf p, _, _, _, _, _, _, _, by omega, hc', hys.snoc, by simp; omega, by omega, rfl, rfl⟩)
        · rw [if_pos (by simpa using hF2)] at hc'
          refine do_nil ?_
          refine do_nil ?_
          first | exact ⟨headOf p, _, _, _, _, _, _, _, by omega, hc', hys, by omega, by omega, rfl, rfl⟩ | exact hQ _ _ _ ⟨headOf p, _, _, _, _, _, _, _, by omega, hc', hys, by omega, by omega, rfl, rfl⟩ | exact hJ _ _ _ ⟨headOf p, _, _, _, _, _, _, _, by omega, hc', hys, by omega, by omega, rfl, rfl⟩ | exact hQ _ _ _ (hJ _ _ _ ⟨headOf p, _, _, _, _, _, _, _, by omega, hc', hys, by omega, by omega, rfl, rfl⟩)
    · obtain ⟨p, acc, ys, m, u, x2, x3, x4, hp, hc, hys, hyl, hk60, rfl, rfl⟩ := hI
      try refine Do.opq fun _ hQ => ?_
      have hc' : acc = climb 60 a [] := hc
      first | exact ⟨ys, m, _, _, _, _, [(ra, rngOf 60 _ t1 t2)], hc' ▸ hys, by omega, rfl, rfl⟩ | exact hQ _ _ _ ⟨ys, m, _, _, _, _, [(ra, rngOf 60 _ t1 t2)], hc' ▸ hys, by omega, rfl, rfl⟩ | exact hJ _ _ _ ⟨ys, m, _, _, _, _, [(ra, rngOf 60 _ t1 t2)], hc' ▸ hys, by omega, rfl, rfl⟩ | exact hQ _ _ _ (hJ _ _ _ ⟨ys, m, _, _, _, _, [(ra, rngOf 60 _ t1 t2)], hc' ▸ hys, by omega, rfl, rfl⟩)
  · rintro vs nw ⟨ys, m, x0, x2, x3, x4, rest, hys, hyl, rfl, rfl⟩
    refine do_cons ?_
    refine do_Return ?_
    refine do_SliceL ?_
    refine do_loc 1 rfl rfl ?_
    refine do_part0 ?_
    refine do_part0 ?_
    refine do_part ?_
    refine do_UnaryOp ?_
    refine do_int fun _ => ?_
    refine neg_i fun _ => ?_
    first | refine ⟨_, ys, m, none, none, some (-1), rfl, .inl (List.mem_append_right _ (.head _)), .none, .none, .int _ _, by decide, by omega, fun rl => ?_⟩ | refine hQ _ _ _ ⟨_, ys, m, none, none, some (-1), rfl, .inl (List.mem_append_right _ (.head _)), .none, .none, .int _ _, by decide, by omega, fun rl => ?_⟩ | refine hJ _ _ _ ⟨_, ys, m, none, none, some (-1), rfl, .inl (List.mem_append_right _ (.head _)), .none, .none, .int _ _, by decide, by omega, fun rl => ?_⟩ | refine hQ _ _ _ (hJ _ _ _ ⟨_, ys, m, none, none, some (-1), rfl, .inl (List.mem_append_right _ (.head _)), .none, .none, .int _ _, by decide, by omega, fun rl => ?_⟩)
    rw [krv_pick]
    first | exact ⟨_, sub1, _, _, _, rfl, rfl, Txs.reverse hys⟩ | exact hQ _ _ _ ⟨_, sub1, _, _, _, rfl, rfl, Txs.reverse hys⟩ | exact hJ _ _ _ ⟨_, sub1, _, _, _, rfl, rfl, Txs.reverse hys⟩ | exact hQ _ _ _ (hJ _ _ _ ⟨_, sub1, _, _, _, rfl, rfl, Txs.reverse hys⟩)
end Mine
end

section
open PySem PySem.W PySem.Calls PySem.Spec PyProof.Rows
set_option maxRecDepth 100000
set_option linter.unusedVariables false
namespace Mine

noncomputable def D_law_safe : Fd := mkFd 213 ["texts", "signs", "behind", "one", "first", "last", "kept", "owed", "at"] [("len", .builtin "len")] (by intro w; kernel_rfl)

theorem map_inj {α β : Type} {f : α → β} (hf : ∀ a b, f a = f b → a = b) : ∀ {l m : List α}, l.map f = m.map f → l = m
  | [], [], _ => rfl
  | [], _ :: _, h => by simp at h
  | _ :: _, [], h => by simp at h
  | a :: l, b :: m, h => by
    simp only [List.map_cons, List.cons.injEq] at h
    rw [hf _ _ h.1, map_inj hf h.2]
noncomputable def bl (c : Nat) : Bool := c == 32 || c == 9
theorem bl_mem (c : Nat) : decide (c ∈ [32, 9]) = bl c := by unfold bl; rw [Bool.eq_iff_iff]; simp
theorem dw_step {p : Nat → Bool} {l : List Nat} {k : Nat} {c : Nat} (h : l[k]? = some c) (hc : p c = true) : (l.drop k).dropWhile p = (l.drop (k + 1)).dropWhile p := by
  obtain ⟨hlt, he⟩ := List.getElem?_eq_some_iff.mp h
  rw [List.drop_eq_getElem_cons hlt, he, List.dropWhile_cons, if_pos hc]
theorem dw_stop {p : Nat → Bool} {l : List Nat} {k : Nat} {c : Nat} (h : l[k]? = some c) (hc : p c = false) : (l.drop k).dropWhile p = l.drop k := by
  obtain ⟨hlt, he⟩ := List.getElem?_eq_some_iff.mp h
  rw [List.drop_eq_getElem_cons hlt, he, List.dropWhile_cons, if_neg (by rw [hc]; decide)]
theorem rtrim_snoc {p : Nat → Bool} {l : List Nat} {c : Nat} (hc : p c = true) : rtrim p (l ++ [c]) = rtrim p l := by
  unfold rtrim; rw [List.reverse_append]; simp [hc]
theorem rtrim_stop {p : Nat → Bool} {l : List Nat} {c : Nat} (hc : p c = false) : rtrim p (l ++ [c]) = l ++ [c] := by
  unfold rtrim; rw [List.reverse_append]; simp [hc]
theorem take_drop_snoc {l : List Nat} {i j c : Nat} (hij : i ≤ j) (h : l[j]? = some c) : (l.take (j + 1)).drop i = (l.take j).drop i ++ [c] := by
  obtain ⟨hlt, he⟩ := List.getElem?_eq_some_iff.mp h
  rw [List.take_succ_eq_append_getElem hlt, he, List.drop_append_of_le_length (by simp; omega)]
theorem sg_len (s : List Nat × Bool) (one : List Nat) : (sgStep s one).1.length ≤ s.1.length + one.length + 1 := by
  have := trim_len (fun c => c == 32 || c == 9) one
  unfold sgStep
  split
  · simp only [List.length_append]; split <;> simp <;> omega
  · omega
theorem sgs_len : ∀ (l : List (List Nat)) (s : List Nat × Bool), (l.foldl sgStep s).1.length ≤ s.1.length + wt l
  | [], s => by simp [wt]
  | x :: l, s => by
    have h1 := sgs_len l (sgStep s x)
    have h2 := sg_len s x
    have h3 : wt (x :: l) = x.length + 1 + wt l := by simp [wt]
    simp only [List.foldl_cons]; omega
theorem join_chars (l : List Nat) : joinL [] (l.map ([·])) = l := by
  induction l with
  | nil => rfl
  | cons a r ih =>
    cases r with
    | nil => rfl
    | cons b r => 
      show [a] ++ [] ++ joinL [] ((b :: r).map ([·])) = _
      rw [ih]; rfl
theorem Txs.take_drop {vs : List Value} {ts : List (List Nat)} (h : Txs vs ts) (i j : Nat) : Txs ((vs.take j).drop i) ((ts.take j).drop i) := by
  induction h generalizing i j with
  | nil => simp; exact All2.nil
  | cons a h ih =>
    cases j with
    | zero => simp; exact All2.nil
    | succ j =>
      cases i with
      | zero => exact All2.cons a (show Txs _ _ from by simpa using ih 0 j)
      | succ i => simpa using ih i j
theorem map_chars_get {l : List Nat} {k : Nat} {x : List Nat} (h : (l.map ([·]))[k]? = some x) : ∃ c, l[k]? = some c ∧ x = [c] := by
  rw [List.getElem?_map] at h
  cases e : l[k]? with
  | none => rw [e] at h; cases h
  | some c => rw [e] at h; cases h; exact ⟨c, rfl, rfl⟩

theorem do_IfS {c : Cx} {vs : Vs} {nw : Nw} {test : Expr} {body orelse : List Stmt} {pos : Pos} {Q : Flow → Vs → Nw → Prop} (B : Bool)
    (h : Do c (isTrue test c.env (eval test c.env)) (fun b vs' nw' => b = B ∧ vs' = vs ∧ nw.Sublist nw') vs nw)
    (ht : B = true → Do c (execs body c.env) Q vs nw) (hf : B = false → Do c (execs orelse c.env) Q vs nw) : Do c (exec (.If test body orelse pos) c.env) Q vs nw :=
  do_If (h.mono fun b vs' nw' ⟨e1, e2, e3⟩ => by subst e1 e2; exact ⟨fun h => (ht h).drop e3, fun h => (hf h).drop e3⟩)

noncomputable def sgAt (ts : List (List Nat)) (k : Nat) : List Nat × Bool := (ts.take k).foldl sgStep ([], false)

noncomputable def sfI1 (l sl : Addr) (ts : List (List Nat)) (k : Nat) (vs : Vs) (nw : Nw) : Prop := ∃ ys m x3 x4 x5, Txs ys ((sgAt ts k).1.map ([·])) ∧ vs = [some (.ref l), some (.ref sl), some (.bool (sgAt ts k).2), x3, x4, x5, none, none, none] ∧ nw = [(sl, lstOf ys m)]
noncomputable def sfJ1 (l sl : Addr) (one : List Nat) (tx tl : Tok) (N : Nw) (vs : Vs) (nw : Nw) : Prop := ∃ (i : Nat) (ti : Tok), i ≤ one.length ∧ one.drop i = one.dropWhile bl ∧ vs = [some (.ref l), some (.ref sl), some (.bool true), some (.str (S one) tx), some (.int i ti), some (.int one.length tl), none, none, none] ∧ nw = N
noncomputable def sfW1 (l sl : Addr) (one : List Nat) (tx tl : Tok) (N : Nw) (q : Nat) (vs : Vs) (nw : Nw) : Prop := ∃ (i : Nat) (ti : Tok), q = one.length - i ∧ i ≤ one.length ∧ (one.drop i).dropWhile bl = one.dropWhile bl ∧ vs = [some (.ref l), some (.ref sl), some (.bool true), some (.str (S one) tx), some (.int i ti), some (.int one.length tl), none, none, none] ∧ nw = N
noncomputable def sfJ2 (l sl : Addr) (one : List Nat) (tx : Tok) (i : Nat) (ti : Tok) (N : Nw) (vs : Vs) (nw : Nw) : Prop := ∃ (j : Nat) (tj : Tok), i ≤ j ∧ j ≤ one.length ∧ (one.take j).drop i = rtrim bl (one.drop i) ∧ vs = [some (.ref l), some (.ref sl), some (.bool true), some (.str (S one) tx), some (.int i ti), some (.int j tj), none, none, none] ∧ nw = N
noncomputable def sfW2 (l sl : Addr) (one : List Nat) (tx : Tok) (i : Nat) (ti : Tok) (N : Nw) (q : Nat) (vs : Vs) (nw : Nw) : Prop := ∃ (j : Nat) (tj : Tok), q = j ∧ i ≤ j ∧ j ≤ one.length ∧ rtrim bl ((one.take j).drop i) = rtrim bl (one.drop i) ∧ vs = [some (.ref l), some (.ref sl), some (.bool true), some (.str (S one) tx), some (.int i ti), some (.int j tj), none, none, none] ∧ nw = N
noncomputable def sfW3 (V : Vs) (kl : Addr) (sg out : List Nat) (N : Nw) (q : Nat) (vs : Vs) (nw : Nw) : Prop := ∃ (at_ : Nat) (ta : Tok) (o : Bool) (kp : List Nat) (ks : List Value) (mk : Nat) (rest : Nw), q = sg.length - at_ ∧ kp.length ≤ 2 * at_ ∧ kp ++ sq o (replaceL unk [] (sg.drop at_)) = out ∧ Txs ks (kp.map ([·])) ∧ at_ ≤ sg.length ∧
  vs = V ++ [some (.bool o), some (.int at_ ta)] ∧ nw = rest ++ (kl, lstOf ks mk) :: N
noncomputable def sfJ3 (V : Vs) (kl : Addr) (sg out : List Nat) (N : Nw) (at_ : Nat) (ta : Tok) (vs : Vs) (nw : Nw) : Prop := ∃ (o' : Bool) (kp' : List Nat) (ks : List Value) (mk : Nat), kp'.length ≤ 2 * (at_ + 1) ∧ kp' ++ sq o' (replaceL unk [] (sg.drop (at_ + 1))) = out ∧ Txs ks (kp'.map ([·])) ∧
  vs = V ++ [some (.bool o'), some (.int at_ ta)] ∧ nw = (kl, lstOf ks mk) :: N
noncomputable def sfJ4 (V : Vs) (kl : Addr) (N : Nw) (at_ : Nat) (ta : Tok) (kp : List Nat) (vs : Vs) (nw : Nw) : Prop := ∃ (ks : List Value) (mk : Nat), Txs ks (kp.map ([·])) ∧ vs = V ++ [some (.bool false), some (.int at_ ta)] ∧ nw = (kl, lstOf ks mk) :: N
theorem fn_law_safe (l : Addr) (xs : List Value) (n : Nat) (ts : List (List Nat)) (hx : Txs xs ts) (hw : wt ts ≤ 100000) : Fn 213 1 [.ref l] [(l, lstOf xs n)] (isStr (safeOf ts)) := by
  refine Fn.of D_law_safe (m := 8) rfl (fun w => by kernel_rfl) fun w A L os rm low => ?_
  have hro : ∀ nw, Has (D_law_safe.cx w A L [(l, lstOf xs n)] os 0 rm low) nw l (lstOf xs n) := fun nw => .inr (.head _)
  have hxl := hx.len
  have hlw := wt_len ts
  refine do_cons ?_
  refine do_Assign (i := 1) rfl ?_
  refine do_List ?_
  refine do_args0 ⟨Nat.le_of_ble_eq_true rfl, fun sl => ?_⟩
  refine do_cons ?_
  refine do_Assign (i := 2) rfl ?_
  refine do_bool ?_
  refine do_then (fun vs nw => ∃ ys m x3 x4 x5 b rest, Txs ys ((signsOf ts).map ([·])) ∧ vs = [some (.ref l), some (.ref sl), b, x3, x4, x5, none, none, none] ∧ nw = [(sl, lstOf ys m)] ++ rest) ?_ ?_
  · refine Do.opq fun _ hJ => ?_
    refine do_For ?_
    refine do_loc 0 rfl rfl ?_
    refine for_list (i := 3) (l := l) (xs := xs) (n := n) rfl (sfI1 l sl ts)
      ⟨[], 0, _, _, _, All2.nil, rfl, rfl⟩ (hro _) (fun k vs nw _ => hro _) (fun k v vs nw hv hI => ?_) (fun vs nw hI => ?_)
    · obtain ⟨ys, m, x3, x4, x5, hys, rfl, rfl⟩ := hI
      try refine Do.opq fun _ hQ => ?_
      obtain ⟨one, tx, hxk, rfl⟩ := hx.get hv
      have hnx : sgAt ts (k + 1) = sgStep (sgAt ts k) one := take_fold (f := sgStep) (b := ([], false)) hxk
      have hsl : (sgAt ts k).1.length ≤ 0 + wt (ts.take k) := sgs_len (ts.take k) ([], false)
      have hkw := wt_take k ts
      have h1w := wt_mem (List.mem_of_getElem? hxk)
      have hyl := hys.len
      rw [List.length_map] at hyl
      generalize sgAt ts k = st at hys hnx hsl hyl
      refine do_cons ?_
      refine do_If ?_
      refine tr_Compare ?_
      refine do_loc 3 rfl rfl ?_
      refine do_S [] (by decide +kernel) fun _ => ?_
      refine ne_ss ⟨_, rfl, fun hT => ?_, fun hF => ?_⟩
      · have e : sgStep st one = (st.1 ++ (if st.2 then [45] else []) ++ trim bl one, true) := by unfold sgStep; rw [if_pos hT]; rfl
        refine do_then (fun vs nw => ∃ ys m, Txs ys ((st.1 ++ (if st.2 then [45] else [])).map ([·])) ∧ vs = [some (.ref l), some (.ref sl), some (.bool st.2), some (.str (S one) tx), x4, x5, none, none, none] ∧ nw = [(sl, lstOf ys m)]) ?_ ?_
        · refine Do.opq fun _ hJ => ?_
          refine do_If ?_
          refine tr_val ?_
          refine do_loc 2 rfl rfl ?_
          refine truthy_bool ⟨fun hT => ?_, fun hF => ?_⟩
          · refine do_cons ?_
            refine do_Expr ?_
            refine do_Meth F.plainAttrs_list F.slot_list_append F.type_list_append ?_
            refine do_loc 1 rfl rfl ?_
            first | refine ⟨.list (.inl (.head _)), ?_⟩ | refine hQ _ _ _ ⟨.list (.inl (.head _)), ?_⟩ | refine hJ _ _ _ ⟨.list (.inl (.head _)), ?_⟩ | refine hQ _ _ _ (hJ _ _ _ ⟨.list (.inl (.head _)), ?_⟩)
            refine do_args ?_
            refine do_S [45] (by decide +kernel) fun _ => ?_
            refine do_args0 ?_
            refine m_append (k := 0) rfl (by omega) (ret_none ?_)
            refine do_nil ?_
            first | refine ⟨rfl, _, _, ?_, rfl, rfl⟩ | refine hQ _ _ _ ⟨rfl, _, _, ?_, rfl, rfl⟩ | refine hJ _ _ _ ⟨rfl, _, _, ?_, rfl, rfl⟩ | refine hQ _ _ _ (hJ _ _ _ ⟨rfl, _, _, ?_, rfl, rfl⟩)
            rw [if_pos hT, List.map_append]; exact hys.snoc
          · refine do_nil ?_
            first | refine ⟨rfl, _, _, ?_, rfl, rfl⟩ | refine hQ _ _ _ ⟨rfl, _, _, ?_, rfl, rfl⟩ | refine hJ _ _ _ ⟨rfl, _, _, ?_, rfl, rfl⟩ | refine hQ _ _ _ (hJ _ _ _ ⟨rfl, _, _, ?_, rfl, rfl⟩)
            rw [if_neg (by rw [hF]; decide), List.append_nil]; exact hys
        · rintro vs nw ⟨ys2, m2, hys2, rfl, rfl⟩
          have hyl2 := hys2.len
          rw [List.length_map, List.length_append] at hyl2
          have hif : (if st.2 = true then [45] else [] : List Nat).length ≤ 1 := by split <;> simp
          refine do_cons ?_
          refine do_Assign (i := 2) rfl ?_
          refine do_bool ?_
          refine do_cons ?_
          refine do_Assign (i := 4) rfl ?_
          refine do_int fun _ => ?_
          refine do_cons ?_
          refine do_Assign (i := 5) rfl ?_
          refine do_CallB 0 rfl ?_
          refine do_args ?_
          refine do_loc 3 rfl rfl ?_
          refine do_args0 ?_
          refine len_s (by omega) fun tl => ?_
          refine do_then (sfJ1 l sl one tx tl [(sl, lstOf ys2 m2)]) ?_ ?_
          · refine do_While (sfW1 l sl one tx tl [(sl, lstOf ys2 m2)])
              one.length ⟨0, _, rfl, Nat.zero_le _, rfl, rfl, rfl⟩ ?_
            rintro q vs nw ⟨i, ti, rfl, hi, hd, rfl, rfl⟩
            refine tr_BoolOp ?_
            refine tr_and ?_
            refine tr_Compare ?_
            refine do_loc 4 rfl rfl ?_
            refine do_loc 5 rfl rfl ?_
            refine lt_ii ⟨_, rfl, fun h1 => ?_, fun h1 => ⟨fun h => (nomatch h), fun _ => ⟨rfl, i, ti, hi, ?_, rfl, rfl⟩⟩⟩
            · have h1' : i < one.length := by have := of_decide_eq_true h1; omega
              obtain ⟨ch, hch⟩ : ∃ ch, one[i]? = some ch := ⟨_, List.getElem?_eq_getElem h1'⟩
              refine tr_and ?_
              refine tr_Compare ?_
              refine do_Sub ?_
              refine do_loc 3 rfl rfl ?_
              refine do_loc 4 rfl rfl ?_
              refine item_s rfl hch (by omega) fun _ => ?_
              refine do_S [32, 9] (by decide +kernel) fun _ => ?_
              refine in_cs ⟨_, rfl, fun h2 => tr_and0 ⟨fun _ => ?_, fun h => (nomatch h)⟩, fun h2 => ⟨fun h => (nomatch h), fun _ => ⟨rfl, i, ti, hi, ?_, rfl, rfl⟩⟩⟩
              · refine do_cons ?_
                refine do_Aug (i := 4) rfl rfl ?_
                refine do_int fun _ => ?_
                refine iadd_ii fun _ => ?_
                refine do_nil ?_
                rw [bl_mem] at h2
                first | exact ⟨one.length - (i + 1), by omega, i + 1, _, rfl, by omega, by rw [← dw_step hch h2]; exact hd, rfl, rfl⟩ | exact hQ _ _ _ ⟨one.length - (i + 1), by omega, i + 1, _, rfl, by omega, by rw [← dw_step hch h2]; exact hd, rfl, rfl⟩ | exact hJ _ _ _ ⟨one.length - (i + 1), by omega, i + 1, _, rfl, by omega, by rw [← dw_step hch h2]; exact hd, rfl, rfl⟩ | exact hQ _ _ _ (hJ _ _ _ ⟨one.length - (i + 1), by omega, i + 1, _, rfl, by omega, by rw [← dw_step hch h2]; exact hd, rfl, rfl⟩)
              · rw [bl_mem] at h2
                rw [← hd, dw_stop hch h2]
            · have h1' : i = one.length := by have := of_decide_eq_false h1; omega
              subst h1'
              rw [← hd]; simp
          · rintro vs nw ⟨i, ti, hi, hdi, rfl, rfl⟩
            refine do_then (sfJ2 l sl one tx i ti [(sl, lstOf ys2 m2)]) ?_ ?_
            · refine do_While (sfW2 l sl one tx i ti [(sl, lstOf ys2 m2)])
                one.length ⟨one.length, _, rfl, hi, Nat.le_refl _, by rw [List.take_length], rfl, rfl⟩ ?_
              rintro q vs nw ⟨j, tj, rfl, hij, hj, hd, rfl, rfl⟩
              refine tr_BoolOp ?_
              refine tr_and ?_
              refine tr_Compare ?_
              refine do_loc 4 rfl rfl ?_
              refine do_loc 5 rfl rfl ?_
              refine lt_ii ⟨_, rfl, fun h1 => ?_, fun h1 => ⟨fun h => (nomatch h), fun _ => ⟨rfl, q, tj, hij, hj, ?_, rfl, rfl⟩⟩⟩
              · have h1' : i < q := by have := of_decide_eq_true h1; omega
                obtain ⟨j, rfl⟩ : ∃ j, q = j + 1 := ⟨q - 1, by omega⟩
                obtain ⟨ch, hch⟩ : ∃ ch, one[j]? = some ch := ⟨_, List.getElem?_eq_getElem (by omega)⟩
                refine tr_and ?_
                refine tr_Compare ?_
                refine do_Sub ?_
                refine do_loc 3 rfl rfl ?_
                refine do_BinOp ?_
                refine do_loc 5 rfl rfl ?_
                refine do_int fun _ => ?_
                refine sub_ii fun _ => ?_
                refine item_s (n := j) (by omega) hch (by omega) fun _ => ?_
                refine do_S [32, 9] (by decide +kernel) fun _ => ?_
                rw [take_drop_snoc (by omega) hch] at hd
                refine in_cs ⟨_, rfl, fun h2 => tr_and0 ⟨fun _ => ?_, fun h => (nomatch h)⟩, fun h2 => ⟨fun h => (nomatch h), fun _ => ⟨rfl, j + 1, tj, hij, hj, ?_, rfl, rfl⟩⟩⟩
                · rw [bl_mem] at h2
                  rw [rtrim_snoc h2] at hd
                  refine do_cons ?_
                  refine do_Aug (i := 5) rfl rfl ?_
                  refine do_int fun _ => ?_
                  refine isub_ii fun _ => ?_
                  refine do_nil ?_
                  first | exact ⟨j, by omega, j, _, rfl, by omega, by omega, hd, by rw [show ((j + 1 : Nat) : Int) - 1 = (j : Int) from by omega]; rfl, rfl⟩ | exact hQ _ _ _ ⟨j, by omega, j, _, rfl, by omega, by omega, hd, by rw [show ((j + 1 : Nat) : Int) - 1 = (j : Int) from by omega]; rfl, rfl⟩ | exact hJ _ _ _ ⟨j, by omega, j, _, rfl, by omega, by omega, hd, by rw [show ((j + 1 : Nat) : Int) - 1 = (j : Int) from by omega]; rfl, rfl⟩ | exact hQ _ _ _ (hJ _ _ _ ⟨j, by omega, j, _, rfl, by omega, by omega, hd, by rw [show ((j + 1 : Nat) : Int) - 1 = (j : Int) from by omega]; rfl, rfl⟩)
                · rw [bl_mem] at h2
                  rw [rtrim_stop h2] at hd
                  rw [take_drop_snoc (by omega) hch]; exact hd
              · have h1' : i = q := by have := of_decide_eq_false h1; omega
                subst h1'
                rw [← hd]
                have : (one.take i).drop i = [] := by simp
                rw [this]; rfl
            · rintro vs nw ⟨j, tj, hij, hj, hd, rfl, rfl⟩
              have hcut : (one.take j).drop i = trim bl one := by rw [hd, hdi]; rfl
              have htl := trim_len bl one
              refine do_cons ?_
              refine do_Expr ?_
              refine do_Meth F.plainAttrs_list F.slot_list_extend F.type_list_extend ?_
              refine do_loc 1 rfl rfl ?_
              first | refine ⟨.list (.inl (.head _)), ?_⟩ | refine hQ _ _ _ ⟨.list (.inl (.head _)), ?_⟩ | refine hJ _ _ _ ⟨.list (.inl (.head _)), ?_⟩ | refine hQ _ _ _ (hJ _ _ _ ⟨.list (.inl (.head _)), ?_⟩)
              refine do_args ?_
              refine do_SliceS ?_
              refine do_loc 3 rfl rfl ?_
              refine do_part ?_
              refine do_loc 4 rfl rfl ?_
              refine do_part ?_
              refine do_loc 5 rfl rfl ?_
              first | refine ⟨_, _, some (_, _), some (_, _), rfl, rfl, rfl, by omega, fun _ => ?_⟩ | refine hQ _ _ _ ⟨_, _, some (_, _), some (_, _), rfl, rfl, rfl, by omega, fun _ => ?_⟩ | refine hJ _ _ _ ⟨_, _, some (_, _), some (_, _), rfl, rfl, rfl, by omega, fun _ => ?_⟩ | refine hQ _ _ _ (hJ _ _ _ ⟨_, _, some (_, _), some (_, _), rfl, rfl, rfl, by omega, fun _ => ?_⟩)
              refine do_args0 ?_
              dsimp only [Option.map]
              rw [cut_both, hcut]
              refine m_extend_S (k := 0) rfl (by omega) fun zs n' hzs => (ret_none ?_)
              refine do_nil ?_
              refine do_nil ?_
              first | exact ⟨_, _, _, _, _, by rw [hnx, e, List.map_append]; exact hys2.app hzs, by rw [hnx, e], rfl⟩ | exact hQ _ _ _ ⟨_, _, _, _, _, by rw [hnx, e, List.map_append]; exact hys2.app hzs, by rw [hnx, e], rfl⟩ | exact hJ _ _ _ ⟨_, _, _, _, _, by rw [hnx, e, List.map_append]; exact hys2.app hzs, by rw [hnx, e], rfl⟩ | exact hQ _ _ _ (hJ _ _ _ ⟨_, _, _, _, _, by rw [hnx, e, List.map_append]; exact hys2.app hzs, by rw [hnx, e], rfl⟩)
      · have e : sgStep st one = st := by unfold sgStep; rw [if_neg (by rw [hF]; decide)]
        refine do_nil ?_
        refine do_nil ?_
        first | exact ⟨_, _, _, _, _, by rw [hnx, e]; exact hys, by rw [hnx, e]; rfl, rfl⟩ | exact hQ _ _ _ ⟨_, _, _, _, _, by rw [hnx, e]; exact hys, by rw [hnx, e]; rfl, rfl⟩ | exact hJ _ _ _ ⟨_, _, _, _, _, by rw [hnx, e]; exact hys, by rw [hnx, e]; rfl, rfl⟩ | exact hQ _ _ _ (hJ _ _ _ ⟨_, _, _, _, _, by rw [hnx, e]; exact hys, by rw [hnx, e]; rfl, rfl⟩)
    · obtain ⟨ys, m, x3, x4, x5, hys, rfl, rfl⟩ := hI
      try refine Do.opq fun _ hQ => ?_
      have hfin : (sgAt ts xs.length).1 = signsOf ts := by unfold sgAt signsOf; rw [hxl, List.take_length]
      rw [hfin] at hys
      first | exact ⟨rfl, ys, m, _, _, _, _, [], hys, rfl, rfl⟩ | exact hQ _ _ _ ⟨rfl, ys, m, _, _, _, _, [], hys, rfl, rfl⟩ | exact hJ _ _ _ ⟨rfl, ys, m, _, _, _, _, [], hys, rfl, rfl⟩ | exact hQ _ _ _ (hJ _ _ _ ⟨rfl, ys, m, _, _, _, _, [], hys, rfl, rfl⟩)
  · rintro vs nw ⟨ys, m, x3, x4, x5, b, rest, hys, rfl, rfl⟩
    have hsl : (signsOf ts).length ≤ 0 + wt ts := sgs_len ts ([], false)
    have hyl := hys.len
    rw [List.length_map] at hyl
    refine Do.drop (nw' := [(sl, lstOf ys m)]) ?_ (List.sublist_append_left _ _)
    have hsafe : safeOf ts = sq false (replaceL unk [] (signsOf ts)) := rfl
    generalize signsOf ts = sg at hys hsl hyl hsafe
    refine do_cons ?_
    refine do_Assign (i := 6) rfl ?_
    refine do_List ?_
    refine do_args0 ⟨Nat.le_of_ble_eq_true rfl, fun kl => ?_⟩
    refine do_cons ?_
    refine do_Assign (i := 7) rfl ?_
    refine do_bool ?_
    refine do_cons ?_
    refine do_Assign (i := 8) rfl ?_
    refine do_int fun _ => ?_
    refine do_then (fun vs nw => ∃ ks mk x7 x8 rest, Txs ks ((safeOf ts).map ([·])) ∧ vs = [some (.ref l), some (.ref sl), b, x3, x4, x5, some (.ref kl), x7, x8] ∧ nw = rest ++ [(kl, lstOf ks mk), (sl, lstOf ys m)]) ?_ ?_
    · refine do_While (sfW3 [some (.ref l), some (.ref sl), b, x3, x4, x5, some (.ref kl)] kl sg (safeOf ts) [(sl, lstOf ys m)]) sg.length
        ⟨0, _, false, [], [], 0, [], rfl, Nat.le_refl _, hsafe.symm, All2.nil, Nat.zero_le _, rfl, rfl⟩ ?_
      rintro q vs nw ⟨at_, ta, o, kp, ks, mk, rest, rfl, hkl, hinv, hks, hat, rfl, rfl⟩
      refine Do.drop (nw' := [(kl, lstOf ks mk), (sl, lstOf ys m)]) ?_ (List.sublist_append_right _ _)
      have hksl := hks.len
      rw [List.length_map] at hksl
      refine tr_Compare ?_
      refine do_loc 8 rfl rfl ?_
      refine do_CallB 0 rfl ?_
      refine do_args ?_
      refine do_loc 1 rfl rfl ?_
      refine do_args0 ?_
      refine len_L (.inl (.tail _ (.head _))) (by omega) fun _ => ?_
      refine lt_ii ⟨_, rfl, fun h1 => ?_, fun h1 => ?_⟩
      · have h1' : at_ < sg.length := by have := of_decide_eq_true h1; omega
        obtain ⟨ch, hch⟩ : ∃ ch, sg[at_]? = some ch := ⟨_, List.getElem?_eq_getElem h1'⟩
        have hdrop : sg.drop at_ = ch :: sg.drop (at_ + 1) := by
          obtain ⟨_, e⟩ := List.getElem?_eq_some_iff.mp hch
          rw [List.drop_eq_getElem_cons h1', e]
        refine do_cons ?_
        refine do_IfS (decide ((sg.drop at_).take 7 = unk)) ?_ (fun hT => ?_) (fun hF => ?_)
        · refine tr_Compare ?_
          refine do_SliceL ?_
          refine do_loc 1 rfl rfl ?_
          refine do_part ?_
          refine do_loc 8 rfl rfl ?_
          refine do_part ?_
          refine do_BinOp ?_
          refine do_loc 8 rfl rfl ?_
          refine do_int fun _ => ?_
          refine add_ii fun _ => ?_
          refine do_part0 ?_
          first | refine ⟨_, ys, m, some at_, some ((at_ + 7 : Nat) : Int), none, rfl, .inl (.tail _ (.head _)), .int _ _, .int _ _, .none, by simp, by omega, fun cl => ?_⟩ | refine hQ _ _ _ ⟨_, ys, m, some at_, some ((at_ + 7 : Nat) : Int), none, rfl, .inl (.tail _ (.head _)), .int _ _, .int _ _, .none, by simp, by omega, fun cl => ?_⟩ | refine hJ _ _ _ ⟨_, ys, m, some at_, some ((at_ + 7 : Nat) : Int), none, rfl, .inl (.tail _ (.head _)), .int _ _, .int _ _, .none, by simp, by omega, fun cl => ?_⟩ | refine hQ _ _ _ (hJ _ _ _ ⟨_, ys, m, some at_, some ((at_ + 7 : Nat) : Int), none, rfl, .inl (.tail _ (.head _)), .int _ _, .int _ _, .none, by simp, by omega, fun cl => ?_⟩)
          refine do_List ?_
          refine do_args ?_
          refine do_S [117] (by decide +kernel) fun _ => ?_
          refine do_args ?_
          refine do_S [110] (by decide +kernel) fun _ => ?_
          refine do_args ?_
          refine do_S [107] (by decide +kernel) fun _ => ?_
          refine do_args ?_
          refine do_S [110] (by decide +kernel) fun _ => ?_
          refine do_args ?_
          refine do_S [111] (by decide +kernel) fun _ => ?_
          refine do_args ?_
          refine do_S [119] (by decide +kernel) fun _ => ?_
          refine do_args ?_
          refine do_S [110] (by decide +kernel) fun _ => ?_
          refine do_args0 ⟨Nat.le_of_ble_eq_true rfl, fun ul => ?_⟩
          rw [slicePick_cut, cut_both]
          refine eq_LL (X := (((sg.map ([·])).take (at_ + 7)).drop at_).map .inr) (Y := (unk.map ([·])).map .inr) (.inl (.tail _ (.head _))) (.inl (.head _)) (hys.take_drop _ _).iss ?_ ⟨_, rfl, ?_, rfl, (List.sublist_cons_self _ _).trans (List.sublist_cons_self _ _)⟩
          · exact Txs.iss (All2.cons ⟨_, rfl⟩ (All2.cons ⟨_, rfl⟩ (All2.cons ⟨_, rfl⟩ (All2.cons ⟨_, rfl⟩ (All2.cons ⟨_, rfl⟩ (All2.cons ⟨_, rfl⟩ (All2.cons ⟨_, rfl⟩ All2.nil)))))))
          · rw [Bool.eq_iff_iff, decide_eq_true_iff, decide_eq_true_iff, ← List.map_take, ← List.map_drop, List.drop_take, show at_ + 7 - at_ = 7 from by omega, List.map_map, List.map_map]
            first | exact ⟨fun h => map_inj (f := (Sum.inr ∘ fun c : Nat => [c] : Nat → Int ⊕ List Nat)) (fun a b h => by simpa using h) h, fun h => by rw [h]⟩ | exact hQ _ _ _ ⟨fun h => map_inj (f := (Sum.inr ∘ fun c : Nat => [c] : Nat → Int ⊕ List Nat)) (fun a b h => by simpa using h) h, fun h => by rw [h]⟩ | exact hJ _ _ _ ⟨fun h => map_inj (f := (Sum.inr ∘ fun c : Nat => [c] : Nat → Int ⊕ List Nat)) (fun a b h => by simpa using h) h, fun h => by rw [h]⟩ | exact hQ _ _ _ (hJ _ _ _ ⟨fun h => map_inj (f := (Sum.inr ∘ fun c : Nat => [c] : Nat → Int ⊕ List Nat)) (fun a b h => by simpa using h) h, fun h => by rw [h]⟩)
        · have hT' := of_decide_eq_true hT
          have hd7 : sg.drop at_ = unk ++ sg.drop (at_ + 7) := by
            rw [← hT', ← List.drop_drop, List.take_append_drop]
          have hl7 : at_ + 7 ≤ sg.length := by
            have := congrArg List.length hT'
            simp [unk] at this; omega
          rw [hd7, replaceL_hit unk_ne, List.nil_append] at hinv
          refine do_cons ?_
          refine do_Aug (i := 8) rfl rfl ?_
          refine do_int fun _ => ?_
          refine iadd_ii fun _ => ?_
          refine do_nil ?_
          refine do_nil ?_
          first | exact ⟨sg.length - (at_ + 7), by omega, at_ + 7, _, o, kp, ks, mk, [], rfl, by omega, hinv, hks, hl7, rfl, rfl⟩ | exact hQ _ _ _ ⟨sg.length - (at_ + 7), by omega, at_ + 7, _, o, kp, ks, mk, [], rfl, by omega, hinv, hks, hl7, rfl, rfl⟩ | exact hJ _ _ _ ⟨sg.length - (at_ + 7), by omega, at_ + 7, _, o, kp, ks, mk, [], rfl, by omega, hinv, hks, hl7, rfl, rfl⟩ | exact hQ _ _ _ (hJ _ _ _ ⟨sg.length - (at_ + 7), by omega, at_ + 7, _, o, kp, ks, mk, [], rfl, by omega, hinv, hks, hl7, rfl, rfl⟩)
        · have hF' : ¬ unk <+: ch :: sg.drop (at_ + 1) := by
            rintro ⟨r, hr⟩
            have := of_decide_eq_false hF
            rw [hdrop, ← hr] at this
            exact this (by simp [unk])
          rw [hdrop, replaceL_miss unk_ne hF'] at hinv
          have hyat : ∃ tc, ys[at_]? = some (.str (S [ch]) tc) := by
            obtain ⟨v, hv⟩ : ∃ v, ys[at_]? = some v := ⟨_, List.getElem?_eq_getElem (by omega)⟩
            obtain ⟨x, tc, hx2, rfl⟩ := hys.get hv
            obtain ⟨c', hc', rfl⟩ := map_chars_get hx2
            rw [hch] at hc'; cases hc'
            first | exact ⟨tc, hv⟩ | exact hQ _ _ _ ⟨tc, hv⟩ | exact hJ _ _ _ ⟨tc, hv⟩ | exact hQ _ _ _ (hJ _ _ _ ⟨tc, hv⟩)
          obtain ⟨tc, htc⟩ := hyat
          refine do_then (sfJ3 [some (.ref l), some (.ref sl), b, x3, x4, x5, some (.ref kl)] kl sg (safeOf ts) [(sl, lstOf ys m)] at_ ta) ?_ ?_
          · refine Do.opq fun _ hJ => ?_
            refine do_IfB (decide (ch ∈ dashes)) ?_ (fun h2 => ?_) (fun h2 => ?_)
            · refine tr_Compare ?_
              refine do_Sub ?_
              refine do_loc 1 rfl rfl ?_
              refine do_loc 8 rfl rfl ?_
              refine item_L rfl (.inl (.tail _ (.head _))) htc (by omega) ?_
              refine do_S dashes (by decide +kernel) fun _ => ?_
              exact in_cs ⟨_, rfl, rfl, rfl, rfl⟩
            · have h2' := of_decide_eq_true h2
              simp only [sq, if_pos h2'] at hinv
              refine do_cons ?_
              refine do_Assign (i := 7) rfl ?_
              refine do_bool ?_
              refine do_nil ?_
              first | exact ⟨rfl, true, kp, ks, mk, by omega, hinv, hks, rfl, rfl⟩ | exact hQ _ _ _ ⟨rfl, true, kp, ks, mk, by omega, hinv, hks, rfl, rfl⟩ | exact hJ _ _ _ ⟨rfl, true, kp, ks, mk, by omega, hinv, hks, rfl, rfl⟩ | exact hQ _ _ _ (hJ _ _ _ ⟨rfl, true, kp, ks, mk, by omega, hinv, hks, rfl, rfl⟩)
            · have h2' := of_decide_eq_false h2
              simp only [sq, if_neg h2'] at hinv
              refine do_then (sfJ4 [some (.ref l), some (.ref sl), b, x3, x4, x5, some (.ref kl)] kl [(sl, lstOf ys m)] at_ ta (kp ++ (if o then [45] else []))) ?_ ?_
              · refine Do.opq fun _ hJ => ?_
                refine do_If ?_
                refine tr_val ?_
                refine do_loc 7 rfl rfl ?_
                refine truthy_bool ⟨fun hT => ?_, fun hF => ?_⟩
                · refine do_cons ?_
                  refine do_Expr ?_
                  refine do_Meth F.plainAttrs_list F.slot_list_append F.type_list_append ?_
                  refine do_loc 6 rfl rfl ?_
                  first | refine ⟨.list (.inl (.head _)), ?_⟩ | refine hQ _ _ _ ⟨.list (.inl (.head _)), ?_⟩ | refine hJ _ _ _ ⟨.list (.inl (.head _)), ?_⟩ | refine hQ _ _ _ (hJ _ _ _ ⟨.list (.inl (.head _)), ?_⟩)
                  refine do_args ?_
                  refine do_S [45] (by decide +kernel) fun _ => ?_
                  refine do_args0 ?_
                  refine m_append (k := 0) rfl (by omega) (ret_none ?_)
                  refine do_cons ?_
                  refine do_Assign (i := 7) rfl ?_
                  refine do_bool ?_
                  refine do_nil ?_
                  first | refine ⟨rfl, _, _, ?_, rfl, rfl⟩ | refine hQ _ _ _ ⟨rfl, _, _, ?_, rfl, rfl⟩ | refine hJ _ _ _ ⟨rfl, _, _, ?_, rfl, rfl⟩ | refine hQ _ _ _ (hJ _ _ _ ⟨rfl, _, _, ?_, rfl, rfl⟩)
                  rw [if_pos hT, List.map_append]; exact hks.snoc
                · refine do_nil ?_
                  subst hF
                  first | refine ⟨rfl, _, _, ?_, rfl, rfl⟩ | refine hQ _ _ _ ⟨rfl, _, _, ?_, rfl, rfl⟩ | refine hJ _ _ _ ⟨rfl, _, _, ?_, rfl, rfl⟩ | refine hQ _ _ _ (hJ _ _ _ ⟨rfl, _, _, ?_, rfl, rfl⟩)
                  rw [if_neg (by decide), List.append_nil]; exact hks
              · rintro vs nw ⟨ks2, mk2, hks2, rfl, rfl⟩
                have hkl2 := hks2.len
                rw [List.length_map, List.length_append] at hkl2
                have hif : (if o = true then [45] else [] : List Nat).length ≤ 1 := by split <;> simp
                refine do_cons ?_
                refine do_Expr ?_
                refine do_Meth F.plainAttrs_list F.slot_list_append F.type_list_append ?_
                refine do_loc 6 rfl rfl ?_
                first | refine ⟨.list (.inl (.head _)), ?_⟩ | refine hQ _ _ _ ⟨.list (.inl (.head _)), ?_⟩ | refine hJ _ _ _ ⟨.list (.inl (.head _)), ?_⟩ | refine hQ _ _ _ (hJ _ _ _ ⟨.list (.inl (.head _)), ?_⟩)
                refine do_args ?_
                refine do_IfExp ?_
                refine tr_Compare ?_
                refine do_Sub ?_
                refine do_loc 1 rfl rfl ?_
                refine do_loc 8 rfl rfl ?_
                refine item_L rfl (.inl (.tail _ (.head _))) htc (by omega) ?_
                refine do_S [32] (by decide +kernel) fun _ => ?_
                refine eq_ss ⟨_, rfl, fun h3 => ?_, fun h3 => ?_⟩
                · have h3' : ch = 32 := by simpa using h3
                  rw [if_pos h3'] at hinv
                  refine do_S [95] (by decide +kernel) fun _ => ?_
                  refine do_args0 ?_
                  refine m_append (k := 0) rfl (by omega) (ret_none ?_)
                  refine do_nil ?_
                  first | refine ⟨rfl, false, kp ++ (if o then [45] else []) ++ [95], _, _, ?_, ?_, ?_, rfl, rfl⟩ | refine hQ _ _ _ ⟨rfl, false, kp ++ (if o then [45] else []) ++ [95], _, _, ?_, ?_, ?_, rfl, rfl⟩ | refine hJ _ _ _ ⟨rfl, false, kp ++ (if o then [45] else []) ++ [95], _, _, ?_, ?_, ?_, rfl, rfl⟩ | refine hQ _ _ _ (hJ _ _ _ ⟨rfl, false, kp ++ (if o then [45] else []) ++ [95], _, _, ?_, ?_, ?_, rfl, rfl⟩)
                  · simp only [List.length_append, List.length_singleton]; omega
                  · rw [← hinv]; simp
                  · rw [List.map_append]; exact hks2.snoc
                · have h3' : ch ≠ 32 := by simpa using h3
                  rw [if_neg h3'] at hinv
                  refine do_Sub ?_
                  refine do_loc 1 rfl rfl ?_
                  refine do_loc 8 rfl rfl ?_
                  refine item_L rfl (.inl (.tail _ (.head _))) htc (by omega) ?_
                  refine do_args0 ?_
                  refine m_append (k := 0) rfl (by omega) (ret_none ?_)
                  refine do_nil ?_
                  first | refine ⟨rfl, false, kp ++ (if o then [45] else []) ++ [ch], _, _, ?_, ?_, ?_, rfl, rfl⟩ | refine hQ _ _ _ ⟨rfl, false, kp ++ (if o then [45] else []) ++ [ch], _, _, ?_, ?_, ?_, rfl, rfl⟩ | refine hJ _ _ _ ⟨rfl, false, kp ++ (if o then [45] else []) ++ [ch], _, _, ?_, ?_, ?_, rfl, rfl⟩ | refine hQ _ _ _ (hJ _ _ _ ⟨rfl, false, kp ++ (if o then [45] else []) ++ [ch], _, _, ?_, ?_, ?_, rfl, rfl⟩)
                  · simp only [List.length_append, List.length_singleton]; omega
                  · rw [← hinv]; simp
                  · rw [List.map_append]; exact hks2.snoc
          · rintro vs nw ⟨o', kp', ks2, mk2, hkl2, hinv2, hks2, rfl, rfl⟩
            refine do_cons ?_
            refine do_Aug (i := 8) rfl rfl ?_
            refine do_int fun _ => ?_
            refine iadd_ii fun _ => ?_
            refine do_nil ?_
            refine do_nil ?_
            first | exact ⟨sg.length - (at_ + 1), by omega, at_ + 1, _, o', kp', ks2, mk2, [], rfl, hkl2, hinv2, hks2, h1', rfl, rfl⟩ | exact hQ _ _ _ ⟨sg.length - (at_ + 1), by omega, at_ + 1, _, o', kp', ks2, mk2, [], rfl, hkl2, hinv2, hks2, h1', rfl, rfl⟩ | exact hJ _ _ _ ⟨sg.length - (at_ + 1), by omega, at_ + 1, _, o', kp', ks2, mk2, [], rfl, hkl2, hinv2, hks2, h1', rfl, rfl⟩ | exact hQ _ _ _ (hJ _ _ _ ⟨sg.length - (at_ + 1), by omega, at_ + 1, _, o', kp', ks2, mk2, [], rfl, hkl2, hinv2, hks2, h1', rfl, rfl⟩)
      · have h1' : at_ = sg.length := by have := of_decide_eq_false h1; omega
        subst h1'
        rw [List.drop_length, replaceL_nil] at hinv
        first | refine ⟨rfl, ks, mk, _, _, [], ?_, rfl, rfl⟩ | refine hQ _ _ _ ⟨rfl, ks, mk, _, _, [], ?_, rfl, rfl⟩ | refine hJ _ _ _ ⟨rfl, ks, mk, _, _, [], ?_, rfl, rfl⟩ | refine hQ _ _ _ (hJ _ _ _ ⟨rfl, ks, mk, _, _, [], ?_, rfl, rfl⟩)
        rw [← hinv, show sq o [] = [] from rfl, List.append_nil]; exact hks
    · rintro vs nw ⟨ks, mk, x7, x8, rest, hks, rfl, rfl⟩
      have hj : (safeOf ts).length ≤ 2 * sg.length := by
        have h1 := sq_len false (replaceL unk [] sg)
        have h2 := replaceL_nil_len unk sg
        rw [hsafe]; omega
      refine do_cons ?_
      refine do_Return ?_
      refine do_Meth F.plainAttrs_str F.slot_str_join F.type_str_join ?_
      refine do_S [] (by decide +kernel) fun _ => ?_
      first | refine ⟨.str, ?_⟩ | refine hQ _ _ _ ⟨.str, ?_⟩ | refine hJ _ _ _ ⟨.str, ?_⟩ | refine hQ _ _ _ (hJ _ _ _ ⟨.str, ?_⟩)
      refine do_args ?_
      refine do_loc 6 rfl rfl ?_
      refine do_args0 ?_
      refine m_join (.inl (List.mem_append_right _ (.head _))) hks ?_ fun _ => ?_
      · have : (((safeOf ts).map ([·])).map (·.length)).sum = (safeOf ts).length := by
          rw [List.map_map]
          generalize safeOf ts = z
          induction z with
          | nil => rfl
          | cons a r ih => simp at ih ⊢; omega
        rw [this]; simp; omega
      · first | exact ⟨[], List.nil_sublist _, ⟨_, congrArg (fun l => Value.str (S l) _) (join_chars _)⟩, rfl⟩ | exact hQ _ _ _ ⟨[], List.nil_sublist _, ⟨_, congrArg (fun l => Value.str (S l) _) (join_chars _)⟩, rfl⟩ | exact hJ _ _ _ ⟨[], List.nil_sublist _, ⟨_, congrArg (fun l => Value.str (S l) _) (join_chars _)⟩, rfl⟩ | exact hQ _ _ _ (hJ _ _ _ ⟨[], List.nil_sublist _, ⟨_, congrArg (fun l => Value.str (S l) _) (join_chars _)⟩, rfl⟩)
end Mine
end

section
open PySem PySem.W PySem.Calls PySem.Spec PyProof.Rows
set_option maxRecDepth 100000
set_option linter.unusedVariables false
namespace Mine

noncomputable def D_law_row : Fd := mkFd 227 ["text", "pairs", "at", "end", "value"] [("len", .builtin "len"), ("_law_rank", .ref 220)] (by intro w; kernel_rfl)

noncomputable def PairAt (nw : Nw) (v : Value) (p : Int × (Int ⊕ List Nat)) : Prop := ∃ a t x, v = .ref a ∧ (a, tupOf [.int p.1 t, x]) ∈ nw ∧ Is x p.2
noncomputable def isPairs (ps : List (Int × (Int ⊕ List Nat))) (v : Value) (nw : Nw) : Prop := ∃ l xs n rest, v = .ref l ∧ nw = rest ++ [(l, lstOf xs n)] ∧ All2 (PairAt rest) xs ps
theorem PairAt.more {nw nw' : Nw} (h : ∀ p ∈ nw, p ∈ nw') {xs : List Value} {ps : List (Int × (Int ⊕ List Nat))} (H : All2 (PairAt nw) xs ps) : All2 (PairAt nw') xs ps := by
  induction H with
  | nil => exact All2.nil
  | cons a _ ih => obtain ⟨ad, t, x, e, hm, hx⟩ := a; exact All2.cons ⟨ad, t, x, e, h _ hm, hx⟩ ih
theorem All2.snoc {α β : Type} {R : α → β → Prop} {l : List α} {m : List β} {a : α} {b : β} (h : All2 R l m) (hr : R a b) : All2 R (l ++ [a]) (m ++ [b]) := by
  induction h with
  | nil => exact All2.cons hr All2.nil
  | cons x _ ih => exact All2.cons x ih

theorem m_append_end {c : Cx} {vs : Vs} {Q : Value → Vs → Nw → Prop} {l : Addr} {xs : List Value} {n : Nat} {rest : Nw} {x : Value} (hsz : xs.length ≤ 16777216) (hq : Q .none vs (rest ++ [(l, lstOf (xs ++ [x]) (n + 1))])) :
    Do c (call (.builtin "list.append") [.ref l, x]) Q vs (rest ++ [(l, lstOf xs n)]) := by
  refine m_append (k := rest.length) (xs := xs) (n := n) (by simp) hsz ?_
  rw [List.set_append_right _ _ (Nat.le_refl _), Nat.sub_self]
  exact hq

theorem dig_mem (c : Nat) : decide (c ∈ digs) = isDig c := by
  by_cases h : c < 60
  · have k : ((List.range 60).all fun c => decide (c ∈ digs) == isDig c) = true := by decide +kernel
    exact beq_iff_eq.mp (List.all_eq_true.mp k c (List.mem_range.mpr h))
  · have h1 : isDig c = false := by
      unfold isDig
      rw [Bool.and_eq_false_iff]
      exact .inr (by rw [← Bool.not_eq_true, Nat.ble_eq]; omega)
    rw [h1, decide_eq_false_iff_not]
    intro hm
    have k : (digs.all fun c => Nat.blt c 60) = true := by decide +kernel
    exact h (Nat.le_of_ble_eq_true (List.all_eq_true.mp k c hm))
theorem sep_mem (c : Nat) : decide (c ∈ [46, 95, 43, 45]) = isSep c := by
  unfold isSep
  rw [Bool.eq_iff_iff]
  simp [or_assoc]
theorem wd_mem (c : Nat) : (!decide (c ∈ [48, 49, 50, 51, 52, 53, 54, 55, 56, 57, 46, 95, 43, 45])) = isWd c := by
  have e : decide (c ∈ digs ++ [46, 95, 43, 45]) = (isDig c || isSep c) := by
    rw [← dig_mem, ← sep_mem, Bool.eq_iff_iff]; simp [List.mem_append]
  show (!decide (c ∈ digs ++ [46, 95, 43, 45])) = _
  rw [e]; unfold isWd; simp
theorem dig_bounds {c : Nat} (h : isDig c = true) : 48 ≤ c ∧ c ≤ 57 := by
  unfold isDig at h; rw [Bool.and_eq_true, Nat.ble_eq, Nat.ble_eq] at h; exact h

/-- the run behind a place, as far as it is read -/
theorem run_step {p : Nat → Bool} {l : List Nat} {i j c : Nat} (hij : i ≤ j) (h : l[j]? = some c) (ha : ∀ x ∈ (l.take j).drop i, p x = true) (hc : p c = true) : ∀ x ∈ (l.take (j + 1)).drop i, p x = true := by
  rw [take_drop_snoc hij h]
  intro x hx
  rcases List.mem_append.mp hx with hx | hx
  · exact ha x hx
  · rw [List.mem_singleton.mp hx]; exact hc
theorem tw_all {p : Nat → Bool} {u v : List Nat} (hu : ∀ x ∈ u, p x = true) : (u ++ v).takeWhile p = u ++ v.takeWhile p ∧ (u ++ v).dropWhile p = v.dropWhile p := by
  induction u with
  | nil => exact ⟨rfl, rfl⟩
  | cons a u ih =>
    have h := ih fun x hx => hu x (.tail _ hx)
    have ha := hu a (.head _)
    constructor
    · rw [List.cons_append, List.takeWhile_cons, if_pos ha, h.1]; rfl
    · rw [List.cons_append, List.dropWhile_cons, if_pos ha, h.2]
theorem run_end {p : Nat → Bool} {l : List Nat} {i j : Nat} (hij : i ≤ j) (hj : j ≤ l.length) (ha : ∀ x ∈ (l.take j).drop i, p x = true) (hc : ∀ c, l[j]? = some c → p c = false) :
    (l.drop i).takeWhile p = (l.take j).drop i ∧ (l.drop i).dropWhile p = l.drop j := by
  have e : l.drop i = (l.take j).drop i ++ l.drop j := by
    conv => lhs; rw [← List.take_append_drop j l]
    rw [List.drop_append_of_le_length (by simp; omega)]
  have hz : (l.drop j).takeWhile p = [] ∧ (l.drop j).dropWhile p = l.drop j := by
    by_cases hlt : j < l.length
    · have := hc _ (List.getElem?_eq_getElem hlt)
      rw [List.drop_eq_getElem_cons hlt]
      first | exact ⟨by rw [List.takeWhile_cons, if_neg (by rw [this]; decide)], by rw [List.dropWhile_cons, if_neg (by rw [this]; decide)]⟩ | exact hQ _ _ _ ⟨by rw [List.takeWhile_cons, if_neg (by rw [this]; decide)], by rw [List.dropWhile_cons, if_neg (by rw [this]; decide)]⟩ | exact hJ _ _ _ ⟨by rw [List.takeWhile_cons, if_neg (by rw [this]; decide)], by rw [List.dropWhile_cons, if_neg (by rw [this]; decide)]⟩ | exact hQ _ _ _ (hJ _ _ _ ⟨by rw [List.takeWhile_cons, if_neg (by rw [this]; decide)], by rw [List.dropWhile_cons, if_neg (by rw [this]; decide)]⟩)
    · rw [List.drop_of_length_le (by omega)]; exact ⟨rfl, rfl⟩
  have := tw_all (v := l.drop j) ha
  rw [e, this.1, this.2, hz.1, hz.2, List.append_nil]
  first | exact ⟨rfl, rfl⟩ | exact hQ _ _ _ ⟨rfl, rfl⟩ | exact hJ _ _ _ ⟨rfl, rfl⟩ | exact hQ _ _ _ (hJ _ _ _ ⟨rfl, rfl⟩)

noncomputable def rowOf (a : List Nat) : List (Int × (Int ⊕ List Nat)) := (tk a).map pairOf

theorem valOf_snoc (l : List Nat) (c : Nat) : valOf (l ++ [c]) = 10 * valOf l + (c - 48) := by unfold valOf; rw [List.foldl_append]; rfl

theorem fn_law_row (a : List Nat) (t : Tok) (ha : a.length ≤ 300000) : Fn 227 2 [.str (S a) t] [] (isPairs (rowOf a)) := by
  refine Fn.of D_law_row (m := 4) rfl (fun w => by kernel_rfl) fun w A L os rm low => ?_
  refine do_cons ?_
  refine do_Assign (i := 1) rfl ?_
  refine do_List ?_
  refine do_args0 ⟨Nat.le_of_ble_eq_true rfl, fun pl => ?_⟩
  refine do_cons ?_
  refine do_Assign (i := 2) rfl ?_
  refine do_int fun _ => ?_
  refine do_then (fun vs nw => ∃ xs n rest x2 x3 x4, All2 (PairAt rest) xs (rowOf a) ∧ vs = [some (.str (S a) t), some (.ref pl), x2, x3, x4] ∧ nw = rest ++ [(pl, lstOf xs n)]) ?_ ?_
  · refine do_While (fun q vs nw => ∃ (i : Nat) (ti : Tok) (xs : List Value) (n : Nat) (rest : Nw) (ps : List (Int × (Int ⊕ List Nat))) (x3 x4 : Option Value), q = a.length - i ∧ i ≤ a.length ∧ ps.length ≤ i ∧ All2 (PairAt rest) xs ps ∧ ps ++ rowOf (a.drop i) = rowOf a ∧
        vs = [some (.str (S a) t), some (.ref pl), some (.int i ti), x3, x4] ∧ nw = rest ++ [(pl, lstOf xs n)]) a.length
      ⟨0, _, [], 0, [], [], _, _, rfl, Nat.zero_le _, Nat.le_refl _, All2.nil, rfl, rfl, rfl⟩ ?_
    intro q vs nw hRq
    refine gopq fun _ hGq => ?_
    obtain ⟨i, ti, xs, n, rest, ps, x3, x4, rfl, hi, hpl, hps, hinv, rfl, rfl⟩ := hRq
    refine hGq ?_
    have hxl := hps.length_eq
    refine tr_Compare ?_
    refine do_loc 2 rfl rfl ?_
    refine do_CallB 0 rfl ?_
    refine do_args ?_
    refine do_loc 0 rfl rfl ?_
    refine do_args0 ?_
    refine len_s (by omega) fun _ => ?_
    refine lt_ii ⟨_, rfl, fun h1 => ?_, fun h1 => ?_⟩
    · have h1' : i < a.length := by have := of_decide_eq_true h1; omega
      obtain ⟨ch, hch⟩ : ∃ ch, a[i]? = some ch := ⟨_, List.getElem?_eq_getElem h1'⟩
      have hdrop : a.drop i = ch :: a.drop (i + 1) := by
        obtain ⟨_, e⟩ := List.getElem?_eq_some_iff.mp hch
        rw [List.drop_eq_getElem_cons h1', e]
      refine do_cons ?_
      refine do_Assign (i := 3) rfl ?_
      refine do_loc 2 rfl rfl ?_
      refine do_then (fun vs nw => ∃ (j : Nat) (tj : Tok) (xs : List Value) (n : Nat) (rest : Nw) (ps : List (Int × (Int ⊕ List Nat))) (x4 : Option Value), i < j ∧ j ≤ a.length ∧ ps.length ≤ j ∧ All2 (PairAt rest) xs ps ∧ ps ++ rowOf (a.drop j) = rowOf a ∧
        vs = [some (.str (S a) t), some (.ref pl), some (.int i ti), some (.int j tj), x4] ∧ nw = rest ++ [(pl, lstOf xs n)]) ?_ ?_
      · refine Do.opq fun _ hJ => ?_
        refine do_IfB (isDig ch) ?_ (fun h2 => ?_) (fun h2 => ?_)
        · refine tr_Compare ?_
          refine do_Sub ?_
          refine do_loc 0 rfl rfl ?_
          refine do_loc 2 rfl rfl ?_
          refine item_s rfl hch (by omega) fun _ => ?_
          refine do_S digs (by decide +kernel) fun _ => ?_
          exact in_cs ⟨_, rfl, dig_mem ch, rfl, rfl⟩
        · refine do_cons ?_
          refine do_Assign (i := 4) rfl ?_
          refine do_int fun _ => ?_
          refine do_then (fun vs nw => ∃ (j : Nat) (tj tv : Tok), i < j ∧ j ≤ a.length ∧ (a.drop i).takeWhile isDig = (a.take j).drop i ∧ (a.drop i).dropWhile isDig = a.drop j ∧
            vs = [some (.str (S a) t), some (.ref pl), some (.int i ti), some (.int j tj), some (.int (valOf ((a.take j).drop i)) tv)] ∧ nw = rest ++ [(pl, lstOf xs n)]) ?_ ?_
          · refine do_While (fun q vs nw => ∃ (j : Nat) (tj tv : Tok), q = a.length - j ∧ i ≤ j ∧ j ≤ a.length ∧ (∀ x ∈ (a.take j).drop i, isDig x = true) ∧
              vs = [some (.str (S a) t), some (.ref pl), some (.int i ti), some (.int j tj), some (.int (valOf ((a.take j).drop i)) tv)] ∧ nw = rest ++ [(pl, lstOf xs n)]) (a.length - i)
              ⟨i, _, _, rfl, Nat.le_refl _, by omega, by simp, by rw [show (a.take i).drop i = [] from by simp]; rfl, rfl⟩ ?_
            intro q vs nw hRq
            refine gopq fun _ hGq => ?_
            obtain ⟨j, tj, tv, rfl, hij, hj, hall, rfl, rfl⟩ := hRq
            refine hGq ?_
            have ext : (∀ c, a[j]? = some c → isDig c = false) → i < j ∧ (a.drop i).takeWhile isDig = (a.take j).drop i ∧ (a.drop i).dropWhile isDig = a.drop j := fun hc => by
              first | refine ⟨?_, run_end hij hj hall hc⟩ | refine hQ _ _ _ ⟨?_, run_end hij hj hall hc⟩ | refine hJ _ _ _ ⟨?_, run_end hij hj hall hc⟩ | refine hQ _ _ _ (hJ _ _ _ ⟨?_, run_end hij hj hall hc⟩)
              rcases Nat.lt_or_eq_of_le hij with h | h
              · exact h
              · subst h
                have := hc ch hch
                rw [h2] at this; cases this
            refine tr_BoolOp ?_
            refine tr_and ?_
            refine tr_Compare ?_
            refine do_loc 3 rfl rfl ?_
            refine do_CallB 0 rfl ?_
            refine do_args ?_
            refine do_loc 0 rfl rfl ?_
            refine do_args0 ?_
            refine len_s (by omega) fun _ => ?_
            refine lt_ii ⟨_, rfl, fun h3 => ?_, fun h3 => ⟨fun h => (nomatch h), fun _ => ?_⟩⟩
            · have h3' : j < a.length := by have := of_decide_eq_true h3; omega
              obtain ⟨cj, hcj⟩ : ∃ cj, a[j]? = some cj := ⟨_, List.getElem?_eq_getElem h3'⟩
              refine tr_and ?_
              refine tr_Compare ?_
              refine do_Sub ?_
              refine do_loc 0 rfl rfl ?_
              refine do_loc 3 rfl rfl ?_
              refine item_s rfl hcj (by omega) fun _ => ?_
              refine do_S digs (by decide +kernel) fun _ => ?_
              refine in_cs ⟨_, rfl, fun h4 => tr_and0 ⟨fun _ => ?_, fun h => (nomatch h)⟩, fun h4 => ⟨fun h => (nomatch h), fun _ => ?_⟩⟩
              · rw [dig_mem] at h4
                have hb := dig_bounds h4
                refine do_cons ?_
                refine do_Assign (i := 4) rfl ?_
                refine do_BinOp ?_
                refine do_BinOp ?_
                refine do_int fun _ => ?_
                refine do_loc 4 rfl rfl ?_
                refine mul_ii (IntMulOk.of_left (by decide +kernel)) fun _ => ?_
                refine do_Meth F.plainAttrs_str F.slot_str_index F.type_str_index ?_
                refine do_S digs (by decide +kernel) fun _ => ?_
                first | refine ⟨.str, ?_⟩ | refine hQ _ _ _ ⟨.str, ?_⟩ | refine hJ _ _ _ ⟨.str, ?_⟩ | refine hQ _ _ _ (hJ _ _ _ ⟨.str, ?_⟩)
                refine do_args ?_
                refine do_Sub ?_
                refine do_loc 0 rfl rfl ?_
                refine do_loc 3 rfl rfl ?_
                refine item_s rfl hcj (by omega) fun _ => ?_
                refine do_args0 ?_
                refine m_index hb.1 hb.2 fun _ => ?_
                refine add_ii fun _ => ?_
                refine do_cons ?_
                refine do_Aug (i := 3) rfl rfl ?_
                refine do_int fun _ => ?_
                refine iadd_ii fun _ => ?_
                refine do_nil ?_
                exact ⟨a.length - (j + 1), by omega, j + 1, _, _, rfl, by omega, by omega, run_step hij hcj hall h4, by
                  rw [take_drop_snoc hij hcj, valOf_snoc, show ((10 * valOf ((a.take j).drop i) + (cj - 48) : Nat) : Int) = 10 * (valOf ((a.take j).drop i) : Int) + ((cj - 48 : Nat) : Int) from by omega]
                  rfl, rfl⟩
              · rw [dig_mem] at h4
                obtain ⟨e1, e2, e3⟩ := ext fun c hc => by rw [hcj] at hc; cases hc; exact h4
                first | exact ⟨rfl, j, _, _, e1, hj, e2, e3, rfl, rfl⟩ | exact hQ _ _ _ ⟨rfl, j, _, _, e1, hj, e2, e3, rfl, rfl⟩ | exact hJ _ _ _ ⟨rfl, j, _, _, e1, hj, e2, e3, rfl, rfl⟩ | exact hQ _ _ _ (hJ _ _ _ ⟨rfl, j, _, _, e1, hj, e2, e3, rfl, rfl⟩)
            · have h3' : j = a.length := by have := of_decide_eq_false h3; omega
              obtain ⟨e1, e2, e3⟩ := ext fun c hc => by rw [h3', List.getElem?_eq_none (Nat.le_refl _)] at hc; cases hc
              first | exact ⟨rfl, j, _, _, e1, hj, e2, e3, rfl, rfl⟩ | exact hQ _ _ _ ⟨rfl, j, _, _, e1, hj, e2, e3, rfl, rfl⟩ | exact hJ _ _ _ ⟨rfl, j, _, _, e1, hj, e2, e3, rfl, rfl⟩ | exact hQ _ _ _ (hJ _ _ _ ⟨rfl, j, _, _, e1, hj, e2, e3, rfl, rfl⟩)
          · intro vs nw hRq
            refine gopq fun _ hGq => ?_
            obtain ⟨j, tj, tv, hij, hj, htw, hdw, rfl, rfl⟩ := hRq
            refine hGq ?_
            refine do_cons ?_
            refine do_Expr ?_
            refine do_Meth F.plainAttrs_list F.slot_list_append F.type_list_append ?_
            refine do_loc 1 rfl rfl ?_
            first | refine ⟨.list (.inl (List.mem_append_right _ (.head _))), ?_⟩ | refine hQ _ _ _ ⟨.list (.inl (List.mem_append_right _ (.head _))), ?_⟩ | refine hJ _ _ _ ⟨.list (.inl (List.mem_append_right _ (.head _))), ?_⟩ | refine hQ _ _ _ (hJ _ _ _ ⟨.list (.inl (List.mem_append_right _ (.head _))), ?_⟩)
            refine do_args ?_
            refine do_Tuple ?_
            refine do_args ?_
            refine do_int fun _ => ?_
            refine do_args ?_
            refine do_loc 4 rfl rfl ?_
            refine do_args0 ⟨Nat.le_of_ble_eq_true rfl, fun tp => ?_⟩
            refine do_args0 ?_
            refine m_append_end (rest := _ :: rest) (by omega) (ret_none ?_)
            refine do_nil ?_
            have hrow : rowOf (a.drop i) = (100, .inl ((valOf ((a.take j).drop i) : Nat) : Int)) :: rowOf (a.drop j) := by
              have h5 : tk (a.drop i) = .inl ((a.drop i).takeWhile isDig) :: tk ((a.drop i).dropWhile isDig) := by
                rw [hdrop, tk_dig h2, List.takeWhile_cons, if_pos h2, List.dropWhile_cons, if_pos h2]
              unfold rowOf
              rw [h5, htw, hdw]; rfl
            first | refine ⟨rfl, j, _, _, _, _, ps ++ [(100, .inl ((valOf ((a.take j).drop i) : Nat) : Int))], _, hij, hj, by simp; omega, (PairAt.more (fun p hp => .tail _ hp) hps).snoc ⟨tp, _, _, rfl, .head _, show Is (.int _ _) (.inl _) from ⟨_, rfl⟩⟩, ?_, rfl, rfl⟩ | refine hQ _ _ _ ⟨rfl, j, _, _, _, _, ps ++ [(100, .inl ((valOf ((a.take j).drop i) : Nat) : Int))], _, hij, hj, by simp; omega, (PairAt.more (fun p hp => .tail _ hp) hps).snoc ⟨tp, _, _, rfl, .head _, show Is (.int _ _) (.inl _) from ⟨_, rfl⟩⟩, ?_, rfl, rfl⟩ | refine hJ _ _ _ ⟨rfl, j, _, _, _, _, ps ++ [(100, .inl ((valOf ((a.take j).drop i) : Nat) : Int))], _, hij, hj, by simp; omega, (PairAt.more (fun p hp => .tail _ hp) hps).snoc ⟨tp, _, _, rfl, .head _, show Is (.int _ _) (.inl _) from ⟨_, rfl⟩⟩, ?_, rfl, rfl⟩ | refine hQ _ _ _ (hJ _ _ _ ⟨rfl, j, _, _, _, _, ps ++ [(100, .inl ((valOf ((a.take j).drop i) : Nat) : Int))], _, hij, hj, by simp; omega, (PairAt.more (fun p hp => .tail _ hp) hps).snoc ⟨tp, _, _, rfl, .head _, show Is (.int _ _) (.inl _) from ⟨_, rfl⟩⟩, ?_, rfl, rfl⟩)
            rw [← hinv, hrow]; simp
        · refine do_cons ?_
          refine do_If ?_
          refine tr_Compare ?_
          refine do_Sub ?_
          refine do_loc 0 rfl rfl ?_
          refine do_loc 2 rfl rfl ?_
          refine item_s rfl hch (by omega) fun _ => ?_
          refine do_S [46, 95, 43, 45] (by decide +kernel) fun _ => ?_
          refine in_cs ⟨_, rfl, fun h3 => ?_, fun h3 => ?_⟩
          · rw [sep_mem] at h3
            refine do_cons ?_
            refine do_Aug (i := 3) rfl rfl ?_
            refine do_int fun _ => ?_
            refine iadd_ii fun _ => ?_
            refine do_nil ?_
            refine do_nil ?_
            first | refine ⟨rfl, i + 1, _, xs, n, rest, ps, _, by omega, by omega, by omega, hps, ?_, rfl, rfl⟩ | refine hQ _ _ _ ⟨rfl, i + 1, _, xs, n, rest, ps, _, by omega, by omega, by omega, hps, ?_, rfl, rfl⟩ | refine hJ _ _ _ ⟨rfl, i + 1, _, xs, n, rest, ps, _, by omega, by omega, by omega, hps, ?_, rfl, rfl⟩ | refine hQ _ _ _ (hJ _ _ _ ⟨rfl, i + 1, _, xs, n, rest, ps, _, by omega, by omega, by omega, hps, ?_, rfl, rfl⟩)
            rw [← hinv]
            unfold rowOf
            rw [hdrop, tk_sep h3 h2]
          · rw [sep_mem] at h3
            have hwd : isWd ch = true := by unfold isWd; rw [h2, h3]; rfl
            refine do_then (fun vs nw => ∃ (j : Nat) (tj : Tok), i < j ∧ j ≤ a.length ∧ (a.drop i).takeWhile isWd = (a.take j).drop i ∧ (a.drop i).dropWhile isWd = a.drop j ∧
              vs = [some (.str (S a) t), some (.ref pl), some (.int i ti), some (.int j tj), x4] ∧ nw = rest ++ [(pl, lstOf xs n)]) ?_ ?_
            · refine do_While (fun q vs nw => ∃ (j : Nat) (tj : Tok), q = a.length - j ∧ i ≤ j ∧ j ≤ a.length ∧ (∀ x ∈ (a.take j).drop i, isWd x = true) ∧
                vs = [some (.str (S a) t), some (.ref pl), some (.int i ti), some (.int j tj), x4] ∧ nw = rest ++ [(pl, lstOf xs n)]) (a.length - i)
                ⟨i, _, rfl, Nat.le_refl _, by omega, by simp, rfl, rfl⟩ ?_
              intro q vs nw hRq
              refine gopq fun _ hGq => ?_
              obtain ⟨j, tj, rfl, hij, hj, hall, rfl, rfl⟩ := hRq
              refine hGq ?_
              have ext : (∀ c, a[j]? = some c → isWd c = false) → i < j ∧ (a.drop i).takeWhile isWd = (a.take j).drop i ∧ (a.drop i).dropWhile isWd = a.drop j := fun hc => by
                first | refine ⟨?_, run_end hij hj hall hc⟩ | refine hQ _ _ _ ⟨?_, run_end hij hj hall hc⟩ | refine hJ _ _ _ ⟨?_, run_end hij hj hall hc⟩ | refine hQ _ _ _ (hJ _ _ _ ⟨?_, run_end hij hj hall hc⟩)
                rcases Nat.lt_or_eq_of_le hij with h | h
                · exact h
                · subst h
                  have := hc ch hch
                  rw [hwd] at this; cases this
              refine tr_BoolOp ?_
              refine tr_and ?_
              refine tr_Compare ?_
              refine do_loc 3 rfl rfl ?_
              refine do_CallB 0 rfl ?_
              refine do_args ?_
              refine do_loc 0 rfl rfl ?_
              refine do_args0 ?_
              refine len_s (by omega) fun _ => ?_
              refine lt_ii ⟨_, rfl, fun h3 => ?_, fun h3 => ⟨fun h => (nomatch h), fun _ => ?_⟩⟩
              · have h3' : j < a.length := by have := of_decide_eq_true h3; omega
                obtain ⟨cj, hcj⟩ : ∃ cj, a[j]? = some cj := ⟨_, List.getElem?_eq_getElem h3'⟩
                refine tr_and ?_
                refine tr_Compare ?_
                refine do_Sub ?_
                refine do_loc 0 rfl rfl ?_
                refine do_loc 3 rfl rfl ?_
                refine item_s rfl hcj (by omega) fun _ => ?_
                refine do_S [48, 49, 50, 51, 52, 53, 54, 55, 56, 57, 46, 95, 43, 45] (by decide +kernel) fun _ => ?_
                refine nin_cs ⟨_, rfl, fun h4 => tr_and0 ⟨fun _ => ?_, fun h => (nomatch h)⟩, fun h4 => ⟨fun h => (nomatch h), fun _ => ?_⟩⟩
                · rw [wd_mem] at h4
                  refine do_cons ?_
                  refine do_Aug (i := 3) rfl rfl ?_
                  refine do_int fun _ => ?_
                  refine iadd_ii fun _ => ?_
                  refine do_nil ?_
                  first | exact ⟨a.length - (j + 1), by omega, j + 1, _, rfl, by omega, by omega, run_step hij hcj hall h4, rfl, rfl⟩ | exact hQ _ _ _ ⟨a.length - (j + 1), by omega, j + 1, _, rfl, by omega, by omega, run_step hij hcj hall h4, rfl, rfl⟩ | exact hJ _ _ _ ⟨a.length - (j + 1), by omega, j + 1, _, rfl, by omega, by omega, run_step hij hcj hall h4, rfl, rfl⟩ | exact hQ _ _ _ (hJ _ _ _ ⟨a.length - (j + 1), by omega, j + 1, _, rfl, by omega, by omega, run_step hij hcj hall h4, rfl, rfl⟩)
                · rw [wd_mem] at h4
                  obtain ⟨e1, e2, e3⟩ := ext fun c hc => by rw [hcj] at hc; cases hc; exact h4
                  first | exact ⟨rfl, j, _, e1, hj, e2, e3, rfl, rfl⟩ | exact hQ _ _ _ ⟨rfl, j, _, e1, hj, e2, e3, rfl, rfl⟩ | exact hJ _ _ _ ⟨rfl, j, _, e1, hj, e2, e3, rfl, rfl⟩ | exact hQ _ _ _ (hJ _ _ _ ⟨rfl, j, _, e1, hj, e2, e3, rfl, rfl⟩)
              · have h3' : j = a.length := by have := of_decide_eq_false h3; omega
                obtain ⟨e1, e2, e3⟩ := ext fun c hc => by rw [h3', List.getElem?_eq_none (Nat.le_refl _)] at hc; cases hc
                first | exact ⟨rfl, j, _, e1, hj, e2, e3, rfl, rfl⟩ | exact hQ _ _ _ ⟨rfl, j, _, e1, hj, e2, e3, rfl, rfl⟩ | exact hJ _ _ _ ⟨rfl, j, _, e1, hj, e2, e3, rfl, rfl⟩ | exact hQ _ _ _ (hJ _ _ _ ⟨rfl, j, _, e1, hj, e2, e3, rfl, rfl⟩)
            · intro vs nw hRq
              refine gopq fun _ hGq => ?_
              obtain ⟨j, tj, hij, hj, htw, hdw, rfl, rfl⟩ := hRq
              refine hGq ?_
              refine do_cons ?_
              refine do_Expr ?_
              refine do_Meth F.plainAttrs_list F.slot_list_append F.type_list_append ?_
              refine do_loc 1 rfl rfl ?_
              first | refine ⟨.list (.inl (List.mem_append_right _ (.head _))), ?_⟩ | refine hQ _ _ _ ⟨.list (.inl (List.mem_append_right _ (.head _))), ?_⟩ | refine hJ _ _ _ ⟨.list (.inl (List.mem_append_right _ (.head _))), ?_⟩ | refine hQ _ _ _ (hJ _ _ _ ⟨.list (.inl (List.mem_append_right _ (.head _))), ?_⟩)
              refine do_args ?_
              refine do_Tuple ?_
              refine do_args ?_
              refine do_CallF D_law_rank 1 rfl ?_
              refine do_args ?_
              refine do_SliceS ?_
              refine do_loc 0 rfl rfl ?_
              refine do_part ?_
              refine do_loc 2 rfl rfl ?_
              refine do_part ?_
              refine do_loc 3 rfl rfl ?_
              first | refine ⟨_, _, some (_, _), some (_, _), rfl, rfl, rfl, by omega, fun _ => ?_⟩ | refine hQ _ _ _ ⟨_, _, some (_, _), some (_, _), rfl, rfl, rfl, by omega, fun _ => ?_⟩ | refine hJ _ _ _ ⟨_, _, some (_, _), some (_, _), rfl, rfl, rfl, by omega, fun _ => ?_⟩ | refine hQ _ _ _ (hJ _ _ _ ⟨_, _, some (_, _), some (_, _), rfl, rfl, rfl, by omega, fun _ => ?_⟩)
              refine do_args0 ?_
              refine do_fn (fn_law_rank _ _) rfl no_ro ?_
              rintro v nw' ⟨⟨tr, rfl⟩, rfl⟩
              refine do_args ?_
              refine do_SliceS ?_
              refine do_loc 0 rfl rfl ?_
              refine do_part ?_
              refine do_loc 2 rfl rfl ?_
              refine do_part ?_
              refine do_loc 3 rfl rfl ?_
              first | refine ⟨_, _, some (_, _), some (_, _), rfl, rfl, rfl, by omega, fun _ => ?_⟩ | refine hQ _ _ _ ⟨_, _, some (_, _), some (_, _), rfl, rfl, rfl, by omega, fun _ => ?_⟩ | refine hJ _ _ _ ⟨_, _, some (_, _), some (_, _), rfl, rfl, rfl, by omega, fun _ => ?_⟩ | refine hQ _ _ _ (hJ _ _ _ ⟨_, _, some (_, _), some (_, _), rfl, rfl, rfl, by omega, fun _ => ?_⟩)
              dsimp only [Option.map]
              rw [cut_both]
              refine do_args0 ⟨Nat.le_of_ble_eq_true rfl, fun tp => ?_⟩
              refine do_args0 ?_
              refine m_append_end (rest := _ :: rest) (by omega) (ret_none ?_)
              refine do_nil ?_
              refine do_nil ?_
              have hrow : rowOf (a.drop i) = (rankOf ((a.take j).drop i), .inr ((a.take j).drop i)) :: rowOf (a.drop j) := by
                have h5 : tk (a.drop i) = .inr ((a.drop i).takeWhile isWd) :: tk ((a.drop i).dropWhile isWd) := by
                  rw [hdrop, tk_wd hwd, List.takeWhile_cons, if_pos hwd, List.dropWhile_cons, if_pos hwd]
                unfold rowOf
                rw [h5, htw, hdw]; rfl
              first | refine ⟨rfl, j, _, _, _, _, ps ++ [(rankOf ((a.take j).drop i), .inr ((a.take j).drop i))], _, hij, hj, by simp; omega, (PairAt.more (fun p hp => .tail _ hp) hps).snoc ⟨tp, _, _, rfl, .head _, show Is (.str _ _) (.inr _) from ⟨_, rfl⟩⟩, ?_, rfl, rfl⟩ | refine hQ _ _ _ ⟨rfl, j, _, _, _, _, ps ++ [(rankOf ((a.take j).drop i), .inr ((a.take j).drop i))], _, hij, hj, by simp; omega, (PairAt.more (fun p hp => .tail _ hp) hps).snoc ⟨tp, _, _, rfl, .head _, show Is (.str _ _) (.inr _) from ⟨_, rfl⟩⟩, ?_, rfl, rfl⟩ | refine hJ _ _ _ ⟨rfl, j, _, _, _, _, ps ++ [(rankOf ((a.take j).drop i), .inr ((a.take j).drop i))], _, hij, hj, by simp; omega, (PairAt.more (fun p hp => .tail _ hp) hps).snoc ⟨tp, _, _, rfl, .head _, show Is (.str _ _) (.inr _) from ⟨_, rfl⟩⟩, ?_, rfl, rfl⟩ | refine hQ _ _ _ (hJ _ _ _ ⟨rfl, j, _, _, _, _, ps ++ [(rankOf ((a.take j).drop i), .inr ((a.take j).drop i))], _, hij, hj, by simp; omega, (PairAt.more (fun p hp => .tail _ hp) hps).snoc ⟨tp, _, _, rfl, .head _, show Is (.str _ _) (.inr _) from ⟨_, rfl⟩⟩, ?_, rfl, rfl⟩)
              rw [← hinv, hrow]; simp
      · intro vs nw hRq
        refine gopq fun _ hGq => ?_
        obtain ⟨j, tj, xs2, n2, rest2, ps2, x42, hij, hj, hpl2, hps2, hinv2, rfl, rfl⟩ := hRq
        refine hGq ?_
        refine do_cons ?_
        refine do_Assign (i := 2) rfl ?_
        refine do_loc 3 rfl rfl ?_
        refine do_nil ?_
        first | exact ⟨a.length - j, by omega, j, _, xs2, n2, rest2, ps2, _, _, rfl, hj, hpl2, hps2, hinv2, rfl, rfl⟩ | exact hQ _ _ _ ⟨a.length - j, by omega, j, _, xs2, n2, rest2, ps2, _, _, rfl, hj, hpl2, hps2, hinv2, rfl, rfl⟩ | exact hJ _ _ _ ⟨a.length - j, by omega, j, _, xs2, n2, rest2, ps2, _, _, rfl, hj, hpl2, hps2, hinv2, rfl, rfl⟩ | exact hQ _ _ _ (hJ _ _ _ ⟨a.length - j, by omega, j, _, xs2, n2, rest2, ps2, _, _, rfl, hj, hpl2, hps2, hinv2, rfl, rfl⟩)
    · have h1' : i = a.length := by have := of_decide_eq_false h1; omega
      subst h1'
      rw [List.drop_length, show rowOf [] = [] from rfl, List.append_nil] at hinv
      subst hinv
      first | exact ⟨rfl, xs, n, rest, _, _, _, hps, rfl, rfl⟩ | exact hQ _ _ _ ⟨rfl, xs, n, rest, _, _, _, hps, rfl, rfl⟩ | exact hJ _ _ _ ⟨rfl, xs, n, rest, _, _, _, hps, rfl, rfl⟩ | exact hQ _ _ _ (hJ _ _ _ ⟨rfl, xs, n, rest, _, _, _, hps, rfl, rfl⟩)
  · intro vs nw hRq
    refine gopq fun _ hGq => ?_
    obtain ⟨xs, n, rest, x2, x3, x4, hps, rfl, rfl⟩ := hRq
    refine hGq ?_
    refine do_cons ?_
    refine do_Return ?_
    refine do_loc 1 rfl rfl ?_
    first | exact ⟨_, List.Sublist.refl _, _, _, _, _, rfl, rfl, hps⟩ | exact hQ _ _ _ ⟨_, List.Sublist.refl _, _, _, _, _, rfl, rfl, hps⟩ | exact hJ _ _ _ ⟨_, List.Sublist.refl _, _, _, _, _, rfl, rfl, hps⟩ | exact hQ _ _ _ (hJ _ _ _ ⟨_, List.Sublist.refl _, _, _, _, _, rfl, rfl, hps⟩)
end Mine
end

section
open PySem.Sre
set_option maxRecDepth 100000
set_option linter.unusedVariables false
namespace Mine

noncomputable def reCode : Array Nat := #[14, 4, 0, 1, 4294967295, 17, 0, 7, 14, 24, 10, 1, 4294967295, 13, 5, 22, 48, 57, 0, 1, 15, 17, 15, 13, 11, 9, 0, 26624, 2147483648, 0, 0, 0, 0, 0, 0, 15, 2, 0, 17, 1, 1]

noncomputable def mm (tx : Array Nat) (lim start : Nat) (pc pos handed : Nat) (outer : Bool) (marks : Array (Option Nat)) (lm li : Int) (frames : List Frame) (weight : Nat) (ans : Option Bool) (seen : Seen) (out : Option Outcome) : M :=
  { code := reCode, text := tx, lim := lim, start := start, lastStart := lim, pc := pc, pos := pos, handed := handed, outermost := outer, marks := marks, lastmark := lm, lastindex := li, frames := frames, weight := weight, answer := ans, seen := seen, outcome := out }

noncomputable def fr (s : Nat) (o : Bool) : Frame := { wait := .nextStart, pc := 5, pos := s, outermost := o }
noncomputable def kp0 : Kept := { lastmark := 0, lastindex := -1, whole := false, marks := #[] }
noncomputable def fb (alt s : Nat) (o : Bool) : Frame := { wait := .nextBranch, pc := alt, pos := s, outermost := o, kept := kp0 }
noncomputable def fg (p : Nat) (n : Int) (o : Bool) : Frame := { wait := .giveBack, pc := 9, pos := p, outermost := o, count := n, kept := kp0 }

variable {tx : Array Nat} {lim s : Nat} {o : Bool} {mk : Array (Option Nat)} {sn : Seen}

theorem sre1 {h : Nat} : ∃ sn', (mm tx lim s 5 s h o mk (-1) (-1) [fr s o] 1 none sn none).step = mm tx lim s 7 s h o (mk.setIfInBounds 0 (some s)) 0 (-1) [fr s o] 1 none sn' none := ⟨_, rfl⟩
theorem sre2 {h : Nat} : ∃ sn', (mm tx lim s 7 s h o mk 0 (-1) [fr s o] 1 none sn none).step = mm tx lim s 9 s s o mk 0 (-1) [fb 8 s o, fr s o] 2 none sn' none := ⟨_, rfl⟩
theorem sre_end (b : Bool) {pc pos h w : Nat} {lm li : Int} : (mm tx lim s pc pos h o mk lm li [] w (some b) sn none).step = mm tx lim s pc pos h o mk lm li [] w (some b) sn (some (if b then .matched else .failed)) := rfl
theorem sre_popS {pc pos h w : Nat} {lm li : Int} : (mm tx lim s pc pos h o mk lm li [fr s o] w (some true) sn none).step = mm tx lim s 5 s h o mk lm li [] (w - 1) (some true) sn none := rfl
theorem sre_popB {alt pc pos h w : Nat} {lm li : Int} {fs : List Frame} : (mm tx lim s pc pos h o mk lm li (fb alt s o :: fs) w (some true) sn none).step = mm tx lim s alt s h o mk lm li fs (w - 1) (some true) sn none := rfl
theorem sre_popG {p pc pos h w : Nat} {n : Int} {lm li : Int} {fs : List Frame} : (mm tx lim s pc pos h o mk lm li (fg p n o :: fs) w (some true) sn none).step = mm tx lim s 9 p h o mk lm li fs (w - 1) (some true) sn none := rfl
theorem sre_no1 {pc pos h : Nat} {lm li : Int} : ∃ sn', (mm tx lim s pc pos h o mk lm li [fb 8 s o, fr s o] 2 (some false) sn none).step = mm tx lim s 23 s s o mk 0 (-1) [fb 22 s o, fr s o] 2 none sn' none := ⟨_, rfl⟩
theorem sre_no2 {pc pos h : Nat} {lm li : Int} : ∃ sn' pc', (mm tx lim s pc pos h o mk lm li [fb 22 s o, fr s o] 2 (some false) sn none).step = mm tx lim s pc' s h o mk 0 (-1) [fr s o] 1 (some false) sn' none := ⟨_, _, rfl⟩
theorem sre_no3 {pc pos h : Nat} {lm li : Int} (hlt : s < lim) : ∃ sn', (mm tx lim s pc pos h o mk lm li [fr s o] 1 (some false) sn none).step = mm tx lim (s + 1) 5 (s + 1) (s + 1) false mk (-1) (-1) [fr (s + 1) false] 1 none sn' none := by
  refine ⟨sn, ?_⟩
  show (if s < lim then _ else _) = _
  rw [if_pos hlt]; rfl
theorem sre_no4 {pc pos h : Nat} {lm li : Int} (hlt : ¬ s < lim) : ∃ sn', (mm tx lim s pc pos h o mk lm li [fr s o] 1 (some false) sn none).step = mm tx lim s 5 s h o mk lm li [] 0 (some false) sn' none := by
  refine ⟨sn, ?_⟩
  show (if s < lim then _ else _) = _
  rw [if_neg hlt]; rfl
theorem sre_jump20 {pos h w : Nat} {fs : List Frame} : ∃ sn', (mm tx lim s 20 pos h o mk 0 (-1) fs w none sn none).step = mm tx lim s 38 pos h o mk 0 (-1) fs w none sn' none := ⟨_, rfl⟩
theorem sre_jump35 {pos h w : Nat} {fs : List Frame} : ∃ sn', (mm tx lim s 35 pos h o mk 0 (-1) fs w none sn none).step = mm tx lim s 38 pos h o mk 0 (-1) fs w none sn' none := ⟨_, rfl⟩
theorem sre_mark1 {pos h w : Nat} {fs : List Frame} : ∃ sn', (mm tx lim s 38 pos h o mk 0 (-1) fs w none sn none).step = mm tx lim s 40 pos h o (mk.setIfInBounds 1 (some pos)) 1 1 fs w none sn' none := ⟨sn.add 17, by with_unfolding_all rfl⟩
theorem sre_succ {pos h w : Nat} {fs : List Frame} : ∃ sn', (mm tx lim s 40 pos h o mk 1 1 fs w none sn none).step = mm tx lim s 40 pos pos o mk 1 1 fs w (some true) sn' none := by
  cases o <;> exact ⟨_, rfl⟩

/-! the sets -/
theorem acc_dig (c : Nat) (sn : Seen) : ∃ sn', accepts reCode 13 c sn = .ok (isDig c, sn') := by
  show ∃ sn', (if (decide (48 ≤ c) && decide (c ≤ 57)) = true then Except.ok (true, _) else Except.ok (!true, _)) = _
  have e : (decide (48 ≤ c) && decide (c ≤ 57)) = isDig c := by
    unfold isDig; rw [Bool.eq_iff_iff, Bool.and_eq_true, Bool.and_eq_true, Nat.ble_eq, Nat.ble_eq, decide_eq_true_iff, decide_eq_true_iff]
  rw [e]
  cases isDig c
  · exact ⟨_, rfl⟩
  · exact ⟨_, rfl⟩
theorem cset (c : Nat) (hc : c < 256) : ((reCode.getD (25 + (1 + c / 32)) 0).testBit (c % 32)) = isSep c := by
  have h : ∀ c : Fin 256, ((reCode.getD (25 + (1 + c.val / 32)) 0).testBit (c.val % 32)) = isSep c.val := by decide +kernel
  exact h ⟨c, hc⟩
theorem acc_sep (c : Nat) (sn : Seen) : ∃ sn', accepts reCode 23 c sn = .ok (isSep c, sn') := by
  show ∃ sn', (if (decide (c < 256) && (reCode.getD (25 + (1 + c / 32)) 0).testBit (c % 32)) = true then Except.ok (true, _) else Except.ok (!true, _)) = _
  have e : (decide (c < 256) && (reCode.getD (25 + (1 + c / 32)) 0).testBit (c % 32)) = isSep c := by
    by_cases h : c < 256
    · rw [cset c h]; simp [h]
    · have : isSep c = false := by
        unfold isSep
        have h1 : ∀ k, k < 256 → (c == k) = false := fun k hk => by simp; omega
        rw [h1 46 (by omega), h1 95 (by omega), h1 43 (by omega), h1 45 (by omega)]; rfl
      rw [this]; simp [h]
  rw [e]
  cases isSep c
  · exact ⟨_, rfl⟩
  · exact ⟨_, rfl⟩
theorem run_dig (a : List Nat) : ∀ (n p f : Nat) (sn : Seen), p + n ≤ a.length → ∃ sn', run reCode a.toArray 13 n p f sn = .ok (f + (((a.drop p).take n).takeWhile isDig).length, sn')
  | 0, p, f, sn, _ => ⟨sn, by simp [run]⟩
  | n + 1, p, f, sn, h => by
    have hp : p < a.length := by omega
    have hg : a.toArray.getD p 0 = a[p] := by simp [hp]
    obtain ⟨sn1, e1⟩ := acc_dig a[p] sn
    have hd : a.drop p = a[p] :: a.drop (p + 1) := List.drop_eq_getElem_cons hp
    rw [hd, List.take_succ_cons]
    unfold run
    rw [hg, e1]
    cases hc : isDig a[p]
    · refine ⟨sn1, ?_⟩
      simp [bind, Except.bind, hc, pure, Except.pure]
    · obtain ⟨sn2, e2⟩ := run_dig a n (p + 1) (f + 1) sn1 (by omega)
      refine ⟨sn2, ?_⟩
      simp only [bind, Except.bind, hc, if_true, List.takeWhile_cons, List.length_cons]
      rw [e2]
      rw [show f + 1 + (((a.drop (p + 1)).take n).takeWhile isDig).length = f + ((((a.drop (p + 1)).take n).takeWhile isDig).length + 1) from by omega]

variable {a : List Nat}
theorem sre_rep0 {h : Nat} {fs : List Frame} {w : Nat} (hl : ¬ s < lim) : ∃ sn', (mm tx lim s 9 s h o mk 0 (-1) fs w none sn none).step = mm tx lim s 9 s h o mk 0 (-1) fs w (some false) sn' none := by
  refine ⟨sn.add 24, ?_⟩
  show (if ((1 : Nat) : Int) > ((lim : Int) - (s : Int)) then _ else _) = _
  rw [if_pos (by omega)]; rfl
noncomputable def cnt (a : List Nat) (s : Nat) : Nat := ((a.drop s).takeWhile isDig).length
theorem sre_rep (hl : s < a.length) (hb : a.length ≤ 4000000000) {h : Nat} {fs : List Frame} : ∃ sn', (mm a.toArray a.length s 9 s h o mk 0 (-1) fs 2 none sn none).step =
    if cnt a s = 0 then mm a.toArray a.length s 9 s h o mk 0 (-1) fs 2 (some false) sn' none else mm a.toArray a.length s 20 (s + cnt a s) (s + cnt a s) o mk 0 (-1) (fg (s + cnt a s) (cnt a s) o :: fs) 3 none sn' none := by
  obtain ⟨sn1, e1⟩ := run_dig a (min 4294967295 ((a.length : Int) - (s : Int)).toNat) s 0 ((sn.add 24).add 13) (by omega)
  have e2 : (a.drop s).take (min 4294967295 ((a.length : Int) - (s : Int)).toNat) = a.drop s := List.take_of_length_le (by simp; omega)
  rw [e2, Nat.zero_add] at e1
  refine ⟨sn1, ?_⟩
  show (if ((1 : Nat) : Int) > ((a.length : Int) - (s : Int)) then _ else (match run reCode a.toArray 13 (min 4294967295 ((a.length : Int) - (s : Int)).toNat) s 0 ((sn.add 24).add 13) with
    | .error why => _
    | .ok (n, seen) => _)) = _
  rw [if_neg (by omega), e1]
  show (if cnt a s < 1 then _ else _) = _
  by_cases hc : cnt a s = 0
  · rw [if_pos (by omega), if_pos hc]; rfl
  · rw [if_neg (by omega), if_neg hc]; rfl
theorem sre_in0 {h : Nat} {fs : List Frame} {w : Nat} (hl : ¬ s < lim) : ∃ sn', (mm tx lim s 23 s h o mk 0 (-1) fs w none sn none).step = mm tx lim s 23 s h o mk 0 (-1) fs w (some false) sn' none := by
  refine ⟨sn.add 13, ?_⟩
  show (if s ≥ lim then _ else _) = _
  rw [if_pos (by omega)]; rfl
theorem sre_in (hl : s < a.length) {h : Nat} {fs : List Frame} {w : Nat} : ∃ sn', (mm a.toArray a.length s 23 s h o mk 0 (-1) fs w none sn none).step =
    if isSep a[s] then mm a.toArray a.length s 35 (s + 1) h o mk 0 (-1) fs w none sn' none else mm a.toArray a.length s 23 s h o mk 0 (-1) fs w (some false) sn' none := by
  obtain ⟨sn1, e1⟩ := acc_sep a[s] (sn.add 13)
  have hg : a.toArray.getD s 0 = a[s] := by simp [hl]
  refine ⟨sn1, ?_⟩
  show (if s ≥ a.length then _ else (match accepts reCode 23 (a.toArray.getD s 0) (sn.add 13) with
    | .error why => _
    | .ok (false, seen) => _
    | .ok (true, seen) => _)) = _
  rw [if_neg (by omega), hg, e1]
  cases isSep a[s] <;> rfl
end Mine
end

section
open PySem.Sre
set_option maxRecDepth 100000
set_option linter.unusedVariables false
namespace Mine

noncomputable def To (k : Nat) (m m' : M) : Prop := ∀ j, M.runFor (k + j) m = M.runFor j m'
theorem To.trans {k l : Nat} {m m' m'' : M} (h : To k m m') (h' : To l m' m'') : To (k + l) m m'' := fun j => by rw [Nat.add_assoc, h, h']
theorem To.step {m m' : M} (ho : m.outcome.isSome = false) (e : m.step = m') : To 1 m m' := fun j => by
  rw [Nat.add_comm]; show (if m.outcome.isSome = true then m else M.runFor j m.step) = _
  rw [if_neg (by rw [ho]; decide), e]

variable {a : List Nat}

structure Hit (a : List Nat) (s e : Nat) (m : M) : Prop where
  out : m.outcome = some .matched
  st : m.start = s
  hd : m.handed = e
  m0 : m.marks.getD 0 none = some s
  m1 : m.marks.getD 1 none = some e
  lm : m.lastmark = 1

theorem marks2 {mk : Array (Option Nat)} (h : mk.size = 2) (s e : Nat) : ((mk.setIfInBounds 0 (some s)).setIfInBounds 1 (some e)).getD 0 none = some s ∧ ((mk.setIfInBounds 0 (some s)).setIfInBounds 1 (some e)).getD 1 none = some e := by
  obtain ⟨l⟩ := mk
  match l, h with
  | [x, y], _ => exact ⟨rfl, rfl⟩

/-- where the next match starts and ends, if there is one -/
noncomputable def nextM (a : List Nat) (s : Nat) : Option (Nat × Nat) := match (a.drop s).dropWhile isWd with
  | [] => none
  | c :: r => some (s + ((a.drop s).takeWhile isWd).length, s + ((a.drop s).takeWhile isWd).length + if isDig c then ((c :: r).takeWhile isDig).length else 1)

theorem sre_search (hb : a.length ≤ 4000000000) : ∀ (n s : Nat) (o : Bool) (mk : Array (Option Nat)) (sn : Seen), a.length - s = n → s ≤ a.length → mk.size = 2 →
    ∃ k m', k ≤ 7 * n + 11 ∧ To k (mm a.toArray a.length s 5 s s o mk (-1) (-1) [fr s o] 1 none sn none) m' ∧ (match nextM a s with | none => m'.outcome = some .failed | some (i, e) => Hit a i e m')
  | 0, s, o, mk, sn, hn, hs, hmk => by
    have hl : ¬ s < a.length := by omega
    obtain ⟨sn1, e1⟩ := sre1 (tx := a.toArray) (lim := a.length) (s := s) (o := o) (mk := mk) (sn := sn) (h := s)
    obtain ⟨sn2, e2⟩ := sre2 (tx := a.toArray) (lim := a.length) (s := s) (o := o) (mk := mk.setIfInBounds 0 (some s)) (sn := sn1) (h := s)
    obtain ⟨sn3, e3⟩ := sre_rep0 (tx := a.toArray) (lim := a.length) (s := s) (o := o) (mk := mk.setIfInBounds 0 (some s)) (sn := sn2) (h := s) (fs := [fb 8 s o, fr s o]) (w := 2) hl
    obtain ⟨sn4, e4⟩ := sre_no1 (tx := a.toArray) (lim := a.length) (s := s) (o := o) (mk := mk.setIfInBounds 0 (some s)) (sn := sn3) (h := s) (pc := 9) (pos := s) (lm := 0) (li := -1)
    obtain ⟨sn5, e5⟩ := sre_in0 (tx := a.toArray) (lim := a.length) (s := s) (o := o) (mk := mk.setIfInBounds 0 (some s)) (sn := sn4) (h := s) (fs := [fb 22 s o, fr s o]) (w := 2) hl
    obtain ⟨sn6, pc6, e6⟩ := sre_no2 (tx := a.toArray) (lim := a.length) (s := s) (o := o) (mk := mk.setIfInBounds 0 (some s)) (sn := sn5) (h := s) (pc := 23) (pos := s) (lm := 0) (li := -1)
    obtain ⟨sn7, e7⟩ := sre_no4 (tx := a.toArray) (lim := a.length) (s := s) (o := o) (mk := mk.setIfInBounds 0 (some s)) (sn := sn6) (h := s) (pc := pc6) (pos := s) (lm := 0) (li := -1) hl
    have T := ((((((To.step rfl e1).trans (To.step rfl e2)).trans (To.step rfl e3)).trans (To.step rfl e4)).trans (To.step rfl e5)).trans (To.step rfl e6)).trans (To.step rfl e7)
    refine ⟨_, _, ?_, T.trans (To.step rfl (sre_end false)), ?_⟩
    · omega
    · have : nextM a s = none := by
        unfold nextM
        rw [List.drop_of_length_le (by omega)]; rfl
      rw [this]; rfl
  | n + 1, s, o, mk, sn, hn, hs, hmk => by
    have hl : s < a.length := by omega
    have hd : a.drop s = a[s] :: a.drop (s + 1) := List.drop_eq_getElem_cons hl
    obtain ⟨sn1, e1⟩ := sre1 (tx := a.toArray) (lim := a.length) (s := s) (o := o) (mk := mk) (sn := sn) (h := s)
    obtain ⟨sn2, e2⟩ := sre2 (tx := a.toArray) (lim := a.length) (s := s) (o := o) (mk := mk.setIfInBounds 0 (some s)) (sn := sn1) (h := s)
    obtain ⟨sn3, e3⟩ := sre_rep (a := a) (s := s) (o := o) (mk := mk.setIfInBounds 0 (some s)) (sn := sn2) (h := s) (fs := [fb 8 s o, fr s o]) hl hb
    have T0 := (To.step rfl e1).trans (To.step rfl e2)
    rcases kinds a[s] with hc | ⟨hc, hnd⟩ | hc
    · have hcnt : cnt a s ≠ 0 := by unfold cnt; rw [hd, List.takeWhile_cons, if_pos hc]; simp
      rw [if_neg hcnt] at e3
      obtain ⟨sn4, e4⟩ := sre_jump20 (tx := a.toArray) (lim := a.length) (s := s) (o := o) (mk := mk.setIfInBounds 0 (some s)) (sn := sn3) (pos := s + cnt a s) (h := s + cnt a s) (w := 3) (fs := fg (s + cnt a s) (cnt a s) o :: [fb 8 s o, fr s o])
      obtain ⟨sn5, e5⟩ := sre_mark1 (tx := a.toArray) (lim := a.length) (s := s) (o := o) (mk := mk.setIfInBounds 0 (some s)) (sn := sn4) (pos := s + cnt a s) (h := s + cnt a s) (w := 3) (fs := fg (s + cnt a s) (cnt a s) o :: [fb 8 s o, fr s o])
      obtain ⟨sn6, e6⟩ := sre_succ (tx := a.toArray) (lim := a.length) (s := s) (o := o) (mk := (mk.setIfInBounds 0 (some s)).setIfInBounds 1 (some (s + cnt a s))) (sn := sn5) (pos := s + cnt a s) (h := s + cnt a s) (w := 3) (fs := fg (s + cnt a s) (cnt a s) o :: [fb 8 s o, fr s o])
      have T := (((((((T0.trans (To.step rfl e3)).trans (To.step rfl e4)).trans (To.step rfl e5)).trans (To.step rfl e6)).trans (To.step rfl sre_popG)).trans (To.step rfl sre_popB)).trans (To.step rfl sre_popS)).trans (To.step rfl (sre_end true))
      refine ⟨_, _, ?_, T, ?_⟩
      · omega
      · have hw : isWd a[s] = false := by unfold isWd; rw [hc]; rfl
        have : nextM a s = some (s, s + cnt a s) := by
          unfold nextM cnt
          rw [hd, List.dropWhile_cons, if_neg (by rw [hw]; decide), List.takeWhile_cons (p := isWd), if_neg (by rw [hw]; decide)]
          simp [hc]
        rw [this]
        exact ⟨rfl, rfl, rfl, (marks2 hmk s _).1, (marks2 hmk s _).2, rfl⟩
    · have hcnt : cnt a s = 0 := by unfold cnt; rw [hd, List.takeWhile_cons, if_neg (by rw [hnd]; decide)]; rfl
      rw [if_pos hcnt] at e3
      obtain ⟨sn4, e4⟩ := sre_no1 (tx := a.toArray) (lim := a.length) (s := s) (o := o) (mk := mk.setIfInBounds 0 (some s)) (sn := sn3) (h := s) (pc := 9) (pos := s) (lm := 0) (li := -1)
      obtain ⟨sn5, e5⟩ := sre_in (a := a) (s := s) (o := o) (mk := mk.setIfInBounds 0 (some s)) (sn := sn4) (h := s) (fs := [fb 22 s o, fr s o]) (w := 2) hl
      rw [if_pos hc] at e5
      obtain ⟨sn6, e6⟩ := sre_jump35 (tx := a.toArray) (lim := a.length) (s := s) (o := o) (mk := mk.setIfInBounds 0 (some s)) (sn := sn5) (pos := s + 1) (h := s) (w := 2) (fs := [fb 22 s o, fr s o])
      obtain ⟨sn7, e7⟩ := sre_mark1 (tx := a.toArray) (lim := a.length) (s := s) (o := o) (mk := mk.setIfInBounds 0 (some s)) (sn := sn6) (pos := s + 1) (h := s) (w := 2) (fs := [fb 22 s o, fr s o])
      obtain ⟨sn8, e8⟩ := sre_succ (tx := a.toArray) (lim := a.length) (s := s) (o := o) (mk := (mk.setIfInBounds 0 (some s)).setIfInBounds 1 (some (s + 1))) (sn := sn7) (pos := s + 1) (h := s) (w := 2) (fs := [fb 22 s o, fr s o])
      have T := ((((((((T0.trans (To.step rfl e3)).trans (To.step rfl e4)).trans (To.step rfl e5)).trans (To.step rfl e6)).trans (To.step rfl e7)).trans (To.step rfl e8)).trans (To.step rfl sre_popB)).trans (To.step rfl sre_popS)).trans (To.step rfl (sre_end true))
      refine ⟨_, _, ?_, T, ?_⟩
      · omega
      · have hw := sep_not_wd hc
        have : nextM a s = some (s, s + 1) := by
          unfold nextM
          rw [hd, List.dropWhile_cons, if_neg (by rw [hw]; decide), List.takeWhile_cons (p := isWd), if_neg (by rw [hw]; decide)]
          simp [hnd]
        rw [this]
        exact ⟨rfl, rfl, rfl, (marks2 hmk s _).1, (marks2 hmk s _).2, rfl⟩
    · have hk : isDig a[s] = false ∧ isSep a[s] = false := by unfold isWd at hc; simpa using hc
      have hcnt : cnt a s = 0 := by unfold cnt; rw [hd, List.takeWhile_cons, if_neg (by rw [hk.1]; decide)]; rfl
      rw [if_pos hcnt] at e3
      obtain ⟨sn4, e4⟩ := sre_no1 (tx := a.toArray) (lim := a.length) (s := s) (o := o) (mk := mk.setIfInBounds 0 (some s)) (sn := sn3) (h := s) (pc := 9) (pos := s) (lm := 0) (li := -1)
      obtain ⟨sn5, e5⟩ := sre_in (a := a) (s := s) (o := o) (mk := mk.setIfInBounds 0 (some s)) (sn := sn4) (h := s) (fs := [fb 22 s o, fr s o]) (w := 2) hl
      rw [if_neg (by rw [hk.2]; decide)] at e5
      obtain ⟨sn6, pc6, e6⟩ := sre_no2 (tx := a.toArray) (lim := a.length) (s := s) (o := o) (mk := mk.setIfInBounds 0 (some s)) (sn := sn5) (h := s) (pc := 23) (pos := s) (lm := 0) (li := -1)
      obtain ⟨sn7, e7⟩ := sre_no3 (tx := a.toArray) (lim := a.length) (s := s) (o := o) (mk := mk.setIfInBounds 0 (some s)) (sn := sn6) (h := s) (pc := pc6) (pos := s) (lm := 0) (li := -1) hl
      have T := ((((T0.trans (To.step rfl e3)).trans (To.step rfl e4)).trans (To.step rfl e5)).trans (To.step rfl e6)).trans (To.step rfl e7)
      obtain ⟨k, m', hk', T', hr⟩ := sre_search hb n (s + 1) false (mk.setIfInBounds 0 (some s)) sn7 (by omega) (by omega) (by simp [hmk])
      refine ⟨_, m', ?_, T.trans T', ?_⟩
      · omega
      · have : nextM a s = nextM a (s + 1) := by
          unfold nextM
          rw [hd, List.dropWhile_cons, if_pos hc, List.takeWhile_cons (p := isWd), if_pos hc]
          simp only [List.length_cons]
          rw [show s + (((a.drop (s + 1)).takeWhile isWd).length + 1) = s + 1 + ((a.drop (s + 1)).takeWhile isWd).length from by omega]
        rw [this]; exact hr
end Mine
end

section
open PySem PySem.W PySem.Calls PySem.Spec PyProof.Rows
open PySem.Builtin.Re
set_option maxRecDepth 100000
set_option linter.unusedVariables false
namespace Mine

noncomputable def pat (w : World) : Obj := ((KK w).lookup 43).getD default
noncomputable def patFs (w : World) : Array Value := match (pat w).data with | .fields fs => fs | _ => #[]
theorem pat_at (w : World) : (KK w).lookup 43 = some (pat w) := by
  have : ((KK w).lookup 43).isSome = true := by kernel_rfl
  obtain ⟨o, e⟩ := Option.isSome_iff_exists.mp this
  rw [e]; unfold pat; rw [e]; rfl
theorem pat_cls (w : World) : (pat w).cls = .type "re.Pattern" := by
  have : ((pat w).cls == .type "re.Pattern") = true := by kernel_rfl
  exact eq_of_beq this
theorem pat_data (w : World) : (pat w).data = .fields (patFs w) := by
  have : (match (pat w).data with | .fields _ => true | _ => false) = true := by kernel_rfl
  unfold patFs
  split at this
  · rename_i e; rw [e]
  · cases this
theorem pat6 (w : World) : reRawNat ((patFs w).getD 6 .none) = 0 := by
  have : Nat.beq (reRawNat ((patFs w).getD 6 .none)) 0 = true := by kernel_rfl
  exact Nat.eq_of_beq_eq_true this
theorem pat2 (w : World) : reRawNat ((patFs w).getD 2 .none) = 1 := by
  have : Nat.beq (reRawNat ((patFs w).getD 2 .none)) 1 = true := by kernel_rfl
  exact Nat.eq_of_beq_eq_true this
theorem pat5 (w : World) : (patFs w).getD 5 .none = .ref 42 := by
  have : ((patFs w).getD 5 .none == .ref 42) = true := by kernel_rfl
  exact eq_of_beq this
theorem patcode (w : World) : ∃ o xs n, (KK w).lookup 42 = some o ∧ o.data = .seq xs n ∧ (xs.map reRawOf).map (·.toNat) = reCode := by
  have h : (match (KK w).lookup 42 with | some ⟨_, _, .seq xs _, _⟩ => decide (((xs.map reRawOf).map (·.toNat)).toList = reCode.toList) | _ => false) = true := by kernel_rfl
  split at h
  · rename_i o n e
    exact ⟨_, _, _, e, rfl, Array.toList_inj.mp (of_decide_eq_true h)⟩
  · cases h

/-! driving the machine -/
theorem runFor_out {m : Sre.M} (h : m.outcome.isSome = true) : ∀ j, Sre.M.runFor j m = m
  | 0 => rfl
  | j + 1 => by show (if m.outcome.isSome = true then m else _) = m; rw [if_pos h]
theorem runFor_add : ∀ (i j : Nat) (m : Sre.M), Sre.M.runFor (i + j) m = Sre.M.runFor j (Sre.M.runFor i m)
  | 0, j, m => by rw [Nat.zero_add]; rfl
  | i + 1, j, m => by
    rw [show i + 1 + j = (i + j) + 1 from by omega]
    show (if m.outcome.isSome = true then m else Sre.M.runFor (i + j) m.step) = Sre.M.runFor j (if m.outcome.isSome = true then m else Sre.M.runFor i m.step)
    split
    · rename_i h; exact (runFor_out h j).symm
    · exact runFor_add i j _
section
variable {M : Model} {A : Around} {E : Value → Shared → Prop} {s : Shared}
theorem wp_drive {Q : Sre.M → Shared → Prop} {m' : Sre.M} (ho : m'.outcome.isSome = true) (hq : Q m' s) : ∀ (turns : Nat) (m : Sre.M) (k : Nat), To k m m' → k < 4 * turns → wpAny M A (reDrive turns m) Q E s
  | 0, m, k, _, h => absurd h (by omega)
  | t + 1, m, k, T, h => by
    unfold reDrive
    have hk : Sre.M.runFor k m = m' := by have := T 0; rw [Nat.add_zero] at this; exact this
    by_cases h4 : (m.runFor reTurnSteps).outcome.isSome = true
    · have : m.runFor reTurnSteps = m' := by
        rcases Nat.le_total k 4 with hle | hle
        · show Sre.M.runFor 4 m = m'
          have := T (4 - k)
          rw [show k + (4 - k) = 4 from by omega, runFor_out ho] at this
          exact this
        · have := runFor_add 4 (k - 4) m
          rw [show 4 + (k - 4) = k from by omega, hk, runFor_out (m := Sre.M.runFor 4 m) h4] at this
          exact this.symm
      show wpAny M A (if (m.runFor reTurnSteps).outcome.isSome = true then pure (m.runFor reTurnSteps) else _) Q E s
      rw [if_pos h4, this]
      exact wpAny_pure hq
    · show wpAny M A (if (m.runFor reTurnSteps).outcome.isSome = true then pure (m.runFor reTurnSteps) else _) Q E s
      rw [if_neg h4]
      refine wpAny_bind (wpAny_rule ?_)
      have hgt : 4 < k := by
        apply Classical.byContradiction
        intro hle
        have := T (4 - k)
        rw [show k + (4 - k) = 4 from by omega, runFor_out ho] at this
        exact h4 (by show (Sre.M.runFor 4 m).outcome.isSome = true; rw [this]; exact ho)
      refine wp_drive ho hq t _ (k - 4) (fun j => ?_) (by omega)
      have := T j
      rw [show k + j = 4 + (k - 4 + j) from by omega, runFor_add] at this
      exact this
theorem wp_rules {Q : PUnit → Shared → Prop} {sn : Sre.Seen} (hq : Q ⟨⟩ s) : ∀ l : List Nat, wpAny M A (forIn l PUnit.unit fun i _ => do
    if sn.has i = true then do rule (Sre.names.getD i ""); pure (ForInStep.yield PUnit.unit) else pure (ForInStep.yield PUnit.unit)) Q E s
  | [] => by rw [List.forIn_nil]; exact wpAny_pure hq
  | x :: l => by
    rw [List.forIn_cons]
    refine wpAny_bind ?_
    split
    · exact wpAny_bind (wpAny_rule (wpAny_pure (wp_rules hq l)))
    · exact wpAny_pure (wp_rules hq l)
theorem wp_runToEnd {Q : Option Sre.M → Shared → Prop} {m m' : Sre.M} {k : Nat} (T : To k m m') (hk : k < 1000000000000) (h : (m'.outcome = some .failed ∧ Q none s) ∨ (m'.outcome = some .matched ∧ Q (some m') s)) :
    wpAny M A (reRunToEnd m) Q E s := by
  unfold reRunToEnd
  have ho : m'.outcome.isSome = true := by rcases h with ⟨e, _⟩ | ⟨e, _⟩ <;> rw [e] <;> rfl
  refine wpAny_bind (wp_drive ho ?_ (2 ^ 64) m k T (by omega))
  refine wpAny_bind ?_
  refine wp_rules ?_ _
  rcases h with ⟨e, hq⟩ | ⟨e, hq⟩
  · rw [e]; exact wpAny_pure hq
  · rw [e]; exact wpAny_pure hq
end

theorem forSearch_eq (a : List Nat) (s : Nat) (hs : s ≤ a.length) : (s = a.length ∧ ∃ m', To 1 (Sre.forSearch reCode a.toArray 1 s a.toArray.size false) m' ∧ m'.outcome = some .failed) ∨
    (s < a.length ∧ ∃ sn, Sre.forSearch reCode a.toArray 1 s a.toArray.size false = mm a.toArray a.length s 5 s s true #[none, none] (-1) (-1) [fr s true] 1 none sn none) := by
  rcases Nat.lt_or_eq_of_le hs with h | h
  · refine .inr ⟨h, ?_⟩
    show ∃ sn, (if (decide (s > a.length) || decide (a.length - s < 1)) = true then _ else _) = _
    rw [if_neg (by simp; omega)]
    exact ⟨_, rfl⟩
  · refine .inl ⟨h, ?_⟩
    show ∃ m', To 1 (if (decide (s > a.length) || decide (a.length - s < 1)) = true then _ else _) m' ∧ _
    rw [if_pos (by simp; omega)]
    exact ⟨_, To.step rfl rfl, rfl⟩

/-- the machine's next match -/
theorem wp_next {M : Model} {A : Around} {E : Value → Shared → Prop} {s : Shared} {t : ReTarget} {a : List Nat} {p : Nat} {Q : Option Sre.M → Shared → Prop} (h1 : t.code = reCode) (h2 : t.text = a.toArray) (h3 : t.groups = 1) (h4 : t.lim = a.toArray.size)
    (hp : p ≤ a.length) (hb : a.length ≤ 1000000) (hq : match nextM a p with | none => Q none s | some (i, e) => ∀ m, Hit a i e m → Q (some m) s) : wpAny M A (reNextFound t p false) Q E s := by
  unfold reNextFound
  rw [h1, h2, h3, h4]
  rcases forSearch_eq a p hp with ⟨he, m', T, ho⟩ | ⟨hl, sn, e⟩
  · have : nextM a p = none := by unfold nextM; rw [List.drop_of_length_le (by omega)]; rfl
    rw [this] at hq
    have hq' : Q none s := hq
    generalize Sre.forSearch reCode a.toArray 1 p a.toArray.size false = m at T ⊢
    exact wp_runToEnd T (by decide) (.inl ⟨ho, hq'⟩)
  · rw [e]
    obtain ⟨k, m', hk, T, hr⟩ := sre_search (a := a) (by omega) (a.length - p) p true #[none, none] sn rfl hp rfl
    have hk2 : k < 1000000000000 := by omega
    generalize mm a.toArray a.length p 5 p p true #[none, none] (-1) (-1) [fr p true] 1 none sn none = m at T ⊢
    refine wp_runToEnd T hk2 ?_
    cases hn : nextM a p with
    | none => rw [hn] at hq hr; exact .inl ⟨hr, hq⟩
    | some ie => rw [hn] at hq hr; exact .inr ⟨hr.out, hq _ hr⟩
end Mine
end

section
open PySem PySem.W PySem.Calls PySem.Spec PyProof.Rows
open PySem.Builtin.Re
set_option maxRecDepth 100000
set_option linter.unusedVariables false
namespace Mine
theorem plainAttrs_re : PlainAttrs "re.Pattern" :=
  ⟨⟨"object.__getattribute__", by rw [typeLookup_type, builtinLookup_eq_fast]; kernel_rfl, by decide +kernel⟩, by rw [typeLookup_type, builtinLookup_eq_fast]; kernel_rfl⟩
theorem slot_re_split : Slot "re.Pattern" "split" "re.Pattern.split" :=
  .of (owner := "re.Pattern") (n := "split") (by rw [typeLookup_type, builtinLookup_eq_fast]; kernel_rfl) (by decide +kernel) (by decide +kernel) (by decide +kernel)
    (by first | exact .inl (by decide +kernel) | exact .inr (by decide +kernel)) (by rw [isSubtype_type]; kernel_rfl)
theorem type_re_split : typeOf (.builtin "re.Pattern.split") = pure (.type "method_descriptor") := by show builtinType _ = _; rw [builtinType_eq_fast]; kernel_rfl
theorem entry_re_split : entryFor table "re.Pattern.split" = some Builtin.«re.Pattern.split» := by first | exact entryFor_of_tree (by kernel_rfl) | exact entryFor_of_fast (by kernel_rfl)
theorem args_re_split (a b : Value) : argsOk "re.Pattern.split" ⟨[a, b], []⟩ := by unfold argsOk; kernel_rfl

noncomputable def rePt : Nat → List Nat → Nat → List (List Nat)
  | 0, a, p => [a.drop p]
  | f + 1, a, p => match nextM a p with
    | none => [a.drop p]
    | some (i, e) => (a.take i).drop p :: (a.take e).drop i :: rePt f a e
noncomputable def reParts (a : List Nat) : List (List Nat) := rePt (a.length + 1) a 0

theorem nextM_some {a : List Nat} {p i e : Nat} (hp : p ≤ a.length) (h : nextM a p = some (i, e)) : p ≤ i ∧ i < e ∧ e ≤ a.length := by
  unfold nextM at h
  have hsum : ((a.drop p).takeWhile isWd).length + ((a.drop p).dropWhile isWd).length = a.length - p := by
    rw [← List.length_append, List.takeWhile_append_dropWhile, List.length_drop]
  split at h
  · cases h
  · rename_i c r hd
    rw [hd] at hsum
    simp only [Option.some.injEq, Prod.mk.injEq] at h
    obtain ⟨h1, h2⟩ := h
    have htw : ((c :: r).takeWhile isDig).length ≤ (c :: r).length := (List.takeWhile_sublist isDig).length_le
    simp only [List.length_cons] at hsum htw
    split at h2
    · rename_i hc
      have : 0 < ((c :: r).takeWhile isDig).length := by rw [List.takeWhile_cons, if_pos hc]; simp
      omega
    · omega

theorem extract_S (a : List Nat) (b e : Nat) : (⟨a.toArray.extract b e⟩ : Str) = S ((a.take e).drop b) := by
  unfold S
  congr 1
  apply Array.toList_inj.mp
  rw [Array.toList_extract, List.extract_eq_take_drop, List.drop_take]

section
variable {M : Model} {A : Around} {E : Value → Shared → Prop} {s : Shared}
theorem wp_forIn {σ : Type} {body : Nat → σ → Sem (ForInStep σ)} (J : Nat → σ → Shared → Prop) (h : ∀ x k st s, J (k + 1) st s → wpAny M A (body x st) (fun r s' => ∃ st', r = .yield st' ∧ J k st' s') E s) :
    ∀ (l : List Nat) (st : σ) (s : Shared), J l.length st s → wpAny M A (forIn l st body) (fun st' s' => J 0 st' s') E s
  | [], st, s, hj => by rw [List.forIn_nil]; exact wpAny_pure hj
  | x :: l, st, s, hj => by
    rw [List.forIn_cons]
    refine wpAny_bind (wpAny_mono (h x l.length st s hj) (fun r s' hr => ?_) fun _ _ e => e)
    obtain ⟨st', rfl, hj'⟩ := hr
    exact wp_forIn J h l st' s' hj'
theorem wp_slice {a : List Nat} {b e : Nat} {Q : Value → Shared → Prop} (ha : a.length ≤ 1000000) (h : Q (.str (S ((a.take e).drop b)) s.toks) { s with toks := s.toks + 1 }) : wpAny M A (reSlice a.toArray 0 b e) Q E s := by
  show wpAny M A (mkStr ⟨a.toArray.extract b e⟩) Q E s
  rw [extract_S]
  refine wpAny_mkStr h ?_
  rw [S_length, szl]
  have : ((a.take e).drop b).length ≤ a.length := by simp; omega
  omega
end

structure SpJ (a : List Nat) (s : Shared) (k : Nat) (st : Array Value × Nat × Nat × Bool × Int × Bool) (s' : Shared) : Prop where
  i2 : st.2.1 = st.2.2.1
  mu : st.2.2.2.1 = false
  tk : ∃ tk, s' = { s with toks := tk }
  le : st.2.1 ≤ a.length
  go : st.2.2.2.2.2 = false → ∃ ts f, Txs st.1.toList ts ∧ ts.length ≤ 2 * st.2.1 ∧ a.length - st.2.1 < f ∧ a.length - st.2.1 < k ∧ ts ++ rePt f a st.2.1 = reParts a
  ov : st.2.2.2.2.2 = true → ∃ ts, Txs st.1.toList ts ∧ ts.length ≤ 2 * a.length ∧ ts ++ [a.drop st.2.1] = reParts a

theorem wp_target (w : World) {A : Around} {E : Value → Shared → Prop} {s : Shared} (a : List Nat) (t : Tok) (G : Gr w s.heap) {Q : ReTarget → Shared → Prop}
    (h : ∀ t' : ReTarget, t'.code = reCode → t'.text = a.toArray → t'.kind = 0 → t'.groups = 1 → t'.lim = a.toArray.size → Q t' s) : wpAny (MM w) A (reWholeTarget (.ref 43) (.str (S a) t)) Q E s := by
  have hpat := G.K _ _ (pat_at w)
  obtain ⟨o42, xs42, n42, h42, hd42, hcode⟩ := patcode w
  have h42' := G.K _ _ h42
  unfold reWholeTarget
  refine wpAny_bind (wpAny_fieldsOf hpat (pat_data w) ?_)
  refine wpAny_bind (m := reTextOf (.str (S a) t)) (wpAny_of_eq (a := (a.toArray, 0)) rfl ?_)
  dsimp only
  rw [pat6, pat2, pat5]
  refine wpAny_bind (wpAny_of_eq (a := ()) rfl ?_)
  refine wpAny_bind (m := reRawItems (.ref 42)) ?_
  unfold reRawItems
  refine wpAny_bind (m := seqItems? (.ref 42)) (wpAny_bind (wpAny_load h42' ?_))
  rw [hd42]
  refine wpAny_pure (wpAny_pure (wpAny_pure ?_))
  exact h _ hcode rfl rfl rfl rfl

theorem re_split (w : World) {A : Around} {E : Value → Shared → Prop} {s : Shared} {Q : PySem.Fin → Shared → Prop} (a : List Nat) (t : Tok) (ha : a.length ≤ 1000000) (G : Gr w s.heap)
    (h : ∀ xs tk, Txs xs (reParts a) → Q (.done (.ret (.ref s.heap.objs.size))) { s with heap := s.heap.push (lstOf xs 0), toks := tk }) : wpAny (MM w) A (Builtin.«re.Pattern.split» ⟨[.ref 43, .str (S a) t], []⟩) Q E s := by
  unfold Builtin.«re.Pattern.split»
  refine wpAny_bind (wpAny_of_eq (show reNamed "re.Pattern.split" "split" ["string", "maxsplit"] 1 [Value.str (S a) t] [] = pure [some (Value.str (S a) t), none] from by kernel_rfl) ?_)
  refine wpAny_bind (wpAny_pure ?_)
  dsimp only
  refine wpAny_bind (wp_target w a t G fun tg g1 g2 g3 g4 g5 => ?_)
  refine wpAny_bind (wpAny_mono (wp_forIn (SpJ a s) ?_ _ _ _ ?_) (fun st s' hJ => ?_) fun _ _ e => e)
  · intro x k st s' J
    obtain ⟨out, p, p', mu, n, over⟩ := st
    obtain ⟨i2, mu0, ⟨tk, rfl⟩, le, go, ov⟩ := J
    simp only at i2 mu0 le go ov
    subst i2 mu0
    dsimp only
    cases over with
    | true =>
      rw [if_neg (by decide)]
      exact wpAny_pure ⟨_, rfl, rfl, rfl, ⟨tk, rfl⟩, le, fun h => (nomatch h), ov⟩
    | false =>
      rw [if_pos (by decide)]
      obtain ⟨ts, f, hts, hlen, hf, hk, hinv⟩ := go rfl
      obtain ⟨f, rfl⟩ : ∃ f', f = f' + 1 := ⟨f - 1, by omega⟩
      refine wpAny_bind ?_
      rw [if_neg (by rw [show ((0 : Int) != 0) = false from rfl, Bool.false_and]; decide)]
      refine wp_next g1 g2 g4 g5 le ha ?_
      cases hn : nextM a p with
      | none =>
        refine wpAny_pure ⟨_, rfl, rfl, rfl, ⟨tk, rfl⟩, le, fun h => (nomatch h), fun _ => ⟨ts, hts, by omega, ?_⟩⟩
        rw [← hinv]; simp only [rePt, hn]
      | some ie =>
        obtain ⟨i, e⟩ := ie
        intro m hm
        have hb := nextM_some le hn
        dsimp only
        rw [g2, g3, hm.st]
        refine wpAny_bind (wp_slice ha ?_)
        rw [g4]
        refine wpAny_bind ?_
        rw [show List.range 1 = [0] from rfl, List.forIn_cons]
        have hg : wpAny (MM w) A (reMachineGroup tg m (0 + 1) (pure Value.none)) (fun v s'' => v = .str (S ((a.take e).drop i)) (tk + 1) ∧ s'' = { s with toks := tk + 1 + 1 }) E { s with toks := tk + 1 } := by
          unfold reMachineGroup
          rw [hm.lm, if_neg (by decide)]
          show wpAny _ _ (match m.marks.getD 0 none, m.marks.getD 1 none with | some b, some e => _ | _, _ => _) _ _ _
          rw [hm.m0, hm.m1]
          dsimp only
          rw [if_neg (by omega), g2, g3]
          exact wp_slice ha ⟨rfl, rfl⟩
        refine wpAny_bind (wpAny_bind (wpAny_mono hg (fun v s'' hv => ?_) fun _ _ e => e))
        obtain ⟨rfl, rfl⟩ := hv
        refine wpAny_pure ?_
        dsimp only
        rw [List.forIn_nil]
        refine wpAny_pure (wpAny_pure ⟨_, rfl, ?_⟩)
        have hmu : (m.handed == i) = false := by rw [hm.hd, beq_eq_false_iff_ne]; omega
        refine ⟨rfl, hmu, ⟨_, rfl⟩, by show m.handed ≤ _; rw [hm.hd]; exact hb.2.2, fun _ => ⟨ts ++ [(a.take i).drop p] ++ [(a.take e).drop i], f, ?_, ?_, ?_, ?_, ?_⟩, fun h => (nomatch h)⟩
        · simp only [Array.toList_push]
          exact (hts.snoc).snoc
        · show _ ≤ 2 * m.handed
          rw [hm.hd]; simp only [List.length_append, List.length_singleton]; omega
        · show _ - m.handed < _
          rw [hm.hd]; omega
        · show _ - m.handed < _
          rw [hm.hd]; omega
        · show _ ++ rePt f a m.handed = _
          rw [hm.hd, ← hinv]; simp only [rePt, hn, List.append_assoc, List.singleton_append]; rfl
  · refine ⟨rfl, rfl, ⟨s.toks, rfl⟩, Nat.zero_le _, fun _ => ⟨[], a.length + 1, All2.nil, Nat.le_refl _, by simp, ?_, rfl⟩, fun h => (nomatch h)⟩
    show a.length - 0 < (List.range (2 * tg.text.size + 3)).length
    rw [g2]; simp; omega
  · obtain ⟨out, p, p', mu, n, over⟩ := st
    obtain ⟨i2, mu0, ⟨tk, rfl⟩, le, go, ov⟩ := hJ
    simp only at i2 mu0 le go ov
    subst i2 mu0
    dsimp only
    cases over with
    | false => obtain ⟨_, _, _, _, _, hk, _⟩ := go rfl; omega
    | true =>
      obtain ⟨ts, hts, hlen, hinv⟩ := ov rfl
      rw [if_neg (by decide)]
      rw [g2, g3, g5]
      refine wpAny_bind (wp_slice ha ?_)
      have hl := hts.len
      have hfull : (a.take a.toArray.size).drop p = a.drop p := by rw [List.size_toArray, List.take_length]
      rw [hfull]
      refine wpAny_bind (wpAny_newList (wpAny_pure ?_) (by rw [szl]; simp only [Array.toList_push, List.length_append, List.length_singleton]; omega))
      have := h (out.push (.str (S (a.drop p)) tk)).toList (tk + 1) (by rw [← hinv, Array.toList_push]; exact hts.snoc)
      simpa using this
end Mine
end

section
open PySem PySem.W PySem.Calls PyProof.Rows
set_option maxRecDepth 100000
set_option linter.unusedVariables false
namespace Mine

/-! the same logic, for the contexts that have the claim's caller on their stack -/
noncomputable def Cal (Γ : Ctx) : Prop := (Γ.code.isCaller || Γ.below.any fun x => x.1.isCaller) = true
noncomputable def CalB (Γ : Ctx) : Prop := (Γ.below.any fun x => x.1.isCaller) = true
theorem CalB.cal {Γ : Ctx} (h : CalB Γ) : Cal Γ := by unfold Cal; unfold CalB at h; rw [h, Bool.or_true]

noncomputable def wpX {α : Type} (M : Model) (A : Around) (t : Sem α) (Q : α → Shared → Prop) (E : Value → Shared → Prop) (s : Shared) : Prop :=
  ∀ Γ p, Γ.In A → Cal Γ → Sem.wp M Γ t (fun a _ s' => Q a s') (fun e _ s' => E e s') p s
noncomputable def codeX (M : Model) (A : Around) (c : Code) (R : Result → Shared → Prop) (s : Shared) : Prop :=
  ∀ Γ p, Γ.code = c → Γ.Below A → CalB Γ → wpCode M Γ R p s

section
variable {α β : Type} {M : Model} {A : Around} {E : Value → Shared → Prop} {s : Shared}
theorem wpX_of {t : Sem α} {Q : α → Shared → Prop} (h : wpAny M A t Q E s) : wpX M A t Q E s := fun Γ p hΓ _ => h Γ p hΓ
theorem codeX_of {c : Code} {R : Result → Shared → Prop} (h : codeAny M A c R s) : codeX M A c R s := fun Γ p hc hΓ _ => h Γ p hc hΓ
theorem wpX_pure {a : α} {Q : α → Shared → Prop} (h : Q a s) : wpX M A (pure a) Q E s := wpX_of (wpAny_pure h)
theorem wpX_mono {t : Sem α} {Q Q' : α → Shared → Prop} {E' : Value → Shared → Prop} (h : wpX M A t Q E s) (hQ : ∀ a s, Q a s → Q' a s) (hE : ∀ e s, E e s → E' e s) : wpX M A t Q' E' s :=
  fun Γ p hΓ hc => Sem.wp_mono M Γ t (fun a _ s => hQ a s) (fun e _ s => hE e s) p s (h Γ p hΓ hc)
theorem wpX_bind {m : Sem α} {f : α → Sem β} {Q : β → Shared → Prop} (h : wpX M A m (fun a s' => wpX M A (f a) Q E s') E s) : wpX M A (m >>= f) Q E s := fun Γ p hΓ hc => by
  rw [Sem.wp_bind']
  exact Sem.wp_mono M Γ m (fun a p' s' h' => h' Γ p' hΓ hc) (fun _ _ _ h' => h') p s (h Γ p hΓ hc)
theorem wpX_holding {vs : List Value} {m : Sem α} {Q : α → Shared → Prop} (h : wpX M A m Q E s) : wpX M A (holding vs m) Q E s := fun Γ p hΓ hc => by
  rw [Sem.wp_holding]; exact h Γ p hΓ hc
theorem wpX_standAt {pos : Pos} {Q : Unit → Shared → Prop} (h : Q () s) : wpX M A (standAt pos) Q E s := wpX_of (wpAny_standAt h)
theorem wpX_run {c : Code} {h : Option Value} {Q : Flow → Shared → Prop} (hc : codeX M (A.mark h) c (fun r s' => match r with | .ok f => Q f s' | .error e => E e s') s) (hnb : h ≠ some byPass := by intro x; cases x) :
    wpX M A (run c h) Q E s := fun Γ p hΓ hk => by rw [Sem.wp_run]; exact hc _ p rfl (hΓ.enter c h p hnb) hk
theorem wpX_runValue {c : Code} {Q : Value → Shared → Prop} (hc : codeX M A c (fun r s' => match r with | .ok (.ret v) => Q v s' | .ok _ => False | .error e => E e s') s) :
    wpX M A (runValue c) Q E s := fun Γ p hΓ hk => by rw [Sem.wp_runValue]; exact hc _ p rfl (hΓ.enter c none p (by intro x; cases x)) hk
theorem codeX_of_tree {c : Code} {R : Result → Shared → Prop}
    (h : wpX M (A.under c) (M.den c) (fun fin s' => match fin with | .done f => R (.ok f) s' | .again c' => c'.quiet = true ∧ codeX M A c' R s') (fun e s' => R (.error e) s') s) : codeX M A c R s := fun Γ p hc hΓ hk => by
  rw [wpCode_iff_wp, hc]
  refine Sem.wp_mono M Γ _ (fun fin p' s' h' => ?_) (fun _ _ _ h' => h') p s (h Γ p (hc ▸ hΓ.in) hk.cal)
  cases fin with
  | done f => exact h'
  | again c' => exact ⟨h'.1, h'.2 (Γ.goto c') p' rfl (hΓ.goto c') hk⟩
end
end Mine
end

section
open PySem PySem.W PySem.Calls PyProof.Rows
set_option maxRecDepth 100000
set_option linter.unusedVariables false
namespace Mine

section
variable {α β : Type} {M : Model} {A : Around} {E : Value → Shared → Prop} {s : Shared}
theorem wpX_with_toks {t : Sem α} {Q : α → Shared → Prop} {n : Nat} (hn : n ≤ s.toks) (h : wpX M A t (fun a s' => n ≤ s'.toks → Q a s') (fun e s' => n ≤ s'.toks → E e s') s) : wpX M A t Q E s :=
  wpX_mono (show wpX M A t (fun a s' => n ≤ s'.toks ∧ (n ≤ s'.toks → Q a s')) (fun e s' => n ≤ s'.toks ∧ (n ≤ s'.toks → E e s')) s from fun Γ p hΓ hc => Sem.wp_toks M Γ n t _ _ p s hn (h Γ p hΓ hc)) (fun _ _ x => x.2 x.1) (fun _ _ x => x.2 x.1)
theorem wpX_onRaise {m : Sem α} {k : Value → Sem Unit} {Q : α → Shared → Prop} (h : wpX M A m Q (fun e s' => wpX M A (k e) (fun _ s'' => E e s'') E s') s) : wpX M A (m.onRaise k) Q E s := fun Γ p hΓ hc => by
  rw [Sem.wp_onRaise]
  exact Sem.wp_mono M Γ m (fun _ _ _ h' => h') (fun e p' s' h' => h' Γ p' hΓ hc) p s (h Γ p hΓ hc)
theorem wpX_attempt {m : Sem α} {Q : Except Value α → Shared → Prop} (h : wpX M A m (fun a => Q (.ok a)) (fun e => Q (.error e)) s) : wpX M A m.attempt Q E s := fun Γ p hΓ hc => by
  rw [Sem.wp_attempt]; exact h Γ p hΓ hc
/-- what does not raise, under a handler -/
theorem wpX_quiet {m : Sem α} {k : Value → Sem Unit} {Q : α → Shared → Prop} (h : wpX M A m Q (fun _ _ => False) s) : wpX M A (m.onRaise k) Q E s := wpX_onRaise (wpX_mono h (fun _ _ x => x) fun _ _ x => x.elim)
theorem wpX_keep {vs : List Value} {m : Sem α} {Q : α → Shared → Prop} (h : wpX M A m Q E s) : wpX M A (m.keep vs) Q E s := fun Γ p hΓ hc => by rw [Sem.wp_keep]; exact h Γ p hΓ hc
theorem wpX_runOwn {c : Code} {env : Env} {Q : Flow → Shared → Prop} (hc : codeX M A c (fun r s' => match r with | .ok f => Q f s' | .error e => False) s) : wpX M A (runOwn c env none) Q (fun _ _ => False) s := by
  unfold runOwn
  exact wpX_quiet (wpX_run (h := none) hc)
theorem codeX_mono {c : Code} {R R' : Result → Shared → Prop} (h : codeX M A c R s) (hR : ∀ r s, R r s → R' r s) : codeX M A c R' s := fun Γ p hc hΓ hk => wpCode_mono hR (h Γ p hc hΓ hk)
theorem codeX_loop' {c : Code} {R : Result → Shared → Prop} (hq : c.quiet = true) (I : Nat → Shared → Prop)
    (turn : ∀ n s, I n s → wpX M (A.under c) (M.den c) (fun fin s' => match fin with
        | .done f => R (.ok f) s'
        | .again c' => (c' = c ∧ ∃ m, m < n ∧ I m s') ∨ (c'.quiet = true ∧ codeX M A c' R s')) (fun e s' => R (.error e) s') s)
    (n : Nat) (h : I n s) : codeX M A c R s := by
  induction n using Nat.strongRecOn generalizing s with
  | ind n ih =>
    refine codeX_of_tree (wpX_mono (turn n s h) (fun fin s' hf => ?_) fun _ _ h' => h')
    cases fin with
    | done f => exact hf
    | again c' =>
      rcases hf with ⟨rfl, m, hm, hI⟩ | hf
      · exact ⟨hq, ih m hm hI⟩
      · exact hf
end

section
variable {w : World} {A : Around} {s : Shared}
theorem codeX_block {stmts : List Stmt} {env : Env} {R : Result → Shared → Prop} (h : wpX (MM w) A (execs stmts env) (fun f s' => R (.ok f) s') (fun _ _ => False) s) : codeX (MM w) A (.block stmts env) R s := by
  refine codeX_of_tree ?_
  show wpX _ _ (do return Fin.done (← (execs stmts env).onRaise (fun x => do noteFrame x env; theTreesLotGoes x))) _ _ s
  exact wpX_bind (wpX_quiet (wpX_mono h (fun f s' h' => wpX_pure h') fun _ _ h' => h'))
theorem codeX_forLoop {R : Result → Shared → Prop} {target : Expr} {it : Value} {body : List Stmt} {env : Env} (I : Nat → Shared → Prop)
    (turn : ∀ n s, I n s → wpX (MM w) A (pyNext it) (fun r s₁ => match r with
      | none => R (.ok .next) s₁
      | some v => wpX (MM w) A (letOwnedTupleGo target it v) (fun _ s₁' => wpX (MM w) A (assign target env v) (fun _ s₂ => wpX (MM w) A (execs body env) (fun f s₃ => match f with
            | .next | .cont => ∃ m, m < n ∧ I m s₃
            | .brk => R (.ok .next) s₃
            | .ret v => R (.ok (.ret v)) s₃) (fun _ _ => False) s₂) (fun _ _ => False) s₁') (fun _ _ => False) s₁) (fun _ _ => False) s)
    (n : Nat) (h : I n s) : codeX (MM w) A (.forLoop target it body [] env) R s := by
  refine codeX_loop' rfl I (fun n s hI => ?_) n h
  show wpX _ A ((forTurn target it body [] env).onRaise (fun x => do noteFrame x env; theTreesLotGoes x)) _ _ s
  refine wpX_quiet ?_
  simp only [forTurn]
  refine wpX_bind (wpX_standAt (wpX_bind (wpX_quiet (wpX_mono (turn n s hI) (fun r s₁ h₁ => ?_) fun _ _ h' => h'))))
  cases r with
  | none => exact wpX_pure (.inr ⟨rfl, codeX_block (wpX_of (wpAny_execs_nil h₁))⟩)
  | some v =>
    refine wpX_bind (wpX_mono h₁ (fun _ s₁' h₁' => ?_) fun _ _ h' => h')
    refine wpX_bind (wpX_mono h₁' (fun _ s₂ h₂ => wpX_bind (wpX_mono h₂ (fun f s₃ h₃ => ?_) fun _ _ h' => h')) fun _ _ h' => h')
    cases f with
    | next => exact wpX_pure (.inl ⟨rfl, h₃⟩)
    | cont => exact wpX_pure (.inl ⟨rfl, h₃⟩)
    | brk => exact wpX_pure h₃
    | ret v => exact wpX_pure h₃
theorem codeX_func {R : Result → Shared → Prop} {body : List Stmt} {env : Env} (h : wpX (MM w) (A.deeper env) (execs body env) (fun f s' => R (.ok (.ret (match f with | .ret v => v | _ => .none))) s') (fun _ _ => False) s) :
    codeX (MM w) A (.func body env) R s := by
  refine codeX_of_tree ?_
  show wpX _ (A.deeper env) (do point; match ← (execs body env).onRaise (leaving env) with | .ret v => ret v | _ => ret .none) _ _ s
  refine wpX_bind (wpX_of (wpAny_point (wpX_bind (wpX_quiet (wpX_mono h (fun f s' h' => ?_) fun _ _ h' => h')))))
  cases f <;> exact wpX_pure h'
theorem codeX_call_function {R : Result → Shared → Prop} {a : Addr} {args : Args} {o : Obj} {fd : FuncData} {body : List Stmt} (hroom : A.depth < recursionLimit) (ho : s.heap.get? a = some o)
    (hd' : o.data = .func fd) (hco : fd.scope.isCoroutine = false) (hgen : fd.scope.isGenerator = false) (hbody : fd.body = .stmts body) (hcd : s.heap.CodeRec fd.code fd.qualname)
    (h : wpAny (MM w) A.in1 (bindArgs fd args) (fun binds s₁ => wpAny (MM w) A.in1 (newFunctionEnv fd.scope fd.globals fd.closure binds (fd.qualname ++ ".<locals>.") (some a) fd.code none fd.builtins)
        (fun env s₂ => s₂.heap.NoLimit ∧ codeX (MM w) A (.func body env) R s₂) (fun e s' => R (.error e) s') s₁) (fun e s' => R (.error e) s') s) :
    codeX (MM w) A (.call (.ref a) args) R s := by
  refine codeX_of_tree (wpX_of ?_)
  show wpAny _ A.in1 (callAny (.ref a) args) _ _ s
  simp only [callAny]
  refine wpAny_bind (wpAny_load ho ?_)
  obtain ⟨c, oc, vs, tq, hc, hoc, hdc, hq⟩ := hcd
  simp only [hd', callFunction, hco, hgen, hbody, hc]
  rw [hc] at h
  refine wpAny_bind (m := field (.ref c) 1) (wpAny_field hoc hdc hq (wpAny_bind (wpAny_pure ?_)))
  exact wpAny_bind (wpAny_mono h (fun binds s₁ h₁ => wpAny_bind (wpAny_mono h₁ (fun env s₂ h₂ => wpAny_bind (wpAny_enterFrame h₂.1 hroom
    (wpAny_pure (And.intro rfl h₂.2)))) fun _ _ h' => h')) fun _ _ h' => h')
end
end Mine
end

section
open PySem PySem.W PySem.Calls PyProof.Rows
set_option maxRecDepth 100000
set_option linter.unusedVariables false
namespace Mine

structure DoX {α : Type} (c : Cx) (t : Sem α) (Q : α → Vs → Nw → Prop) (vs : Vs) (nw : Nw) : Prop where
  run : ∀ pin s, St c pin vs nw s → wpX (MM c.w) c.A t (fun a s' => 1 ≤ s'.toks → ∃ vs' nw', St c pin vs' nw' s' ∧ Q a vs' nw') (fun _ _ => False) s

section
variable {α β : Type} {c : Cx} {vs : Vs} {nw : Nw}
theorem DoX.of {t : Sem α} {Q : α → Vs → Nw → Prop} (h : Do c t Q vs nw) : DoX c t Q vs nw := DoX.mk fun pin s S => wpX_of (h.run pin s S)
theorem DoX.use {t : Sem α} {Q : α → Vs → Nw → Prop} (h : DoX c t Q vs nw) {pin : Pin} {s : Shared} (S : St c pin vs nw s) :
    wpX (MM c.w) c.A t (fun a s' => ∃ vs' nw', St c pin vs' nw' s' ∧ Q a vs' nw') (fun _ _ => False) s :=
  wpX_with_toks S.tk (wpX_mono (h.run pin s S) (fun _ _ x => x) fun _ _ x => x.elim)
theorem DoX.opq {t : Sem α} {Q : α → Vs → Nw → Prop} (h : ∀ Q' : α → Vs → Nw → Prop, (∀ a vs nw, Q a vs nw → Q' a vs nw) → DoX c t Q' vs nw) : DoX c t Q vs nw := h Q fun _ _ _ x => x
theorem DoX.mono {t : Sem α} {Q Q' : α → Vs → Nw → Prop} (h : DoX c t Q vs nw) (hq : ∀ a vs nw, Q a vs nw → Q' a vs nw) : DoX c t Q' vs nw :=
  DoX.mk fun _ _ S => wpX_mono (h.use S) (fun _ _ ⟨v, n, a, b⟩ _ => ⟨v, n, a, hq _ _ _ b⟩) fun _ _ x => x
theorem DoX.drop {t : Sem α} {Q : α → Vs → Nw → Prop} {nw' : Nw} (h : DoX c t Q vs nw') (hs : nw'.Sublist nw) : DoX c t Q vs nw := DoX.mk fun pin s S => h.run pin s (S.drop hs)

theorem dox_nil {Q : Flow → Vs → Nw → Prop} (h : Q .next vs nw) : DoX c (execs [] c.env) Q vs nw := .of (do_nil h)
noncomputable def thenX (c : Cx) (rest : List Stmt) (Q : Flow → Vs → Nw → Prop) : Flow → Vs → Nw → Prop
  | .next => DoX c (execs rest c.env) Q
  | f => Q f
theorem dox_cons {st : Stmt} {rest : List Stmt} {Q : Flow → Vs → Nw → Prop} (h : DoX c (exec st c.env) (thenX c rest Q) vs nw) : DoX c (execs (st :: rest) c.env) Q vs nw := DoX.mk fun pin s S Γ p hΓ hk => by
  rw [execs_cons, Sem.wp_bind']
  refine Sem.wp_mono (MM c.w) Γ _ (fun f p' s' h' => ?_) (fun _ _ _ h' => h') _ _ (h.use S Γ p hΓ hk)
  obtain ⟨vs', nw', S', h'⟩ := h'
  cases f with
  | next => exact h'.run pin s' S' Γ p' hΓ hk
  | brk => exact fun _ => ⟨vs', nw', S', h'⟩
  | cont => exact fun _ => ⟨vs', nw', S', h'⟩
  | ret v => exact fun _ => ⟨vs', nw', S', h'⟩
theorem dox_then {st : Stmt} {rest : List Stmt} {Q : Flow → Vs → Nw → Prop} (J : Vs → Nw → Prop) (h1 : DoX c (exec st c.env) (nextQ J Q) vs nw) (h2 : ∀ vs nw, J vs nw → DoX c (execs rest c.env) Q vs nw) :
    DoX c (execs (st :: rest) c.env) Q vs nw := dox_cons (h1.mono fun f vs nw h => by cases f <;> first | exact h2 vs nw h | exact h)
theorem dox_Assign {i : Nat} {x : Str} {pos' pos : Pos} {value : Expr} {Q : Flow → Vs → Nw → Prop} (hk : c.ks[i]? = some x)
    (h : DoX c (eval value c.env) (fun v vs nw => Q .next (vs.set i (some v)) nw) vs nw)
    (hs : swapsWith value (some (.Name x pos')) pos.line c.env = pure false := by rfl) : DoX c (exec (.Assign [.Name x pos'] value pos) c.env) Q vs nw := DoX.mk fun pin s S Γ p hΓ hc => by
  simp only [exec_Assign_Name c.env x pos' value pos hs, Sem.wp_bind', Sem.wp_cmd_standAt, Sem.wp_bindName, Sem.wp_pure']
  exact Sem.wp_mono (MM c.w) Γ _ (fun v _ s₁ ⟨_, _, S₁, h₁⟩ => (do_storeName (Q := fun _ => Q .next) hk h₁).run pin s₁ S₁ Γ _ hΓ) (fun _ _ _ h' => h') _ _ (h.use S Γ _ hΓ hc)
theorem dox_Return {e : Expr} {pos : Pos} {Q : Flow → Vs → Nw → Prop} (h : DoX c (eval e c.env) (fun v => Q (.ret v)) vs nw) : DoX c (exec (.Return (some e) pos) c.env) Q vs nw := DoX.mk fun pin s S Γ p hΓ hc => by
  simp only [exec_Return_some, Sem.wp_bind', Sem.wp_cmd_standAt, Sem.wp_pure']; exact h.run pin s S Γ _ hΓ hc
theorem dox_If {test : Expr} {body orelse : List Stmt} {pos : Pos} {Q : Flow → Vs → Nw → Prop}
    (h : DoX c (isTrue test c.env (eval test c.env)) (fun b vs nw => (b = true → DoX c (execs body c.env) Q vs nw) ∧ (b = false → DoX c (execs orelse c.env) Q vs nw)) vs nw) :
    DoX c (exec (.If test body orelse pos) c.env) Q vs nw := DoX.mk fun pin s S Γ p hΓ hc => by
  simp only [exec_If, Sem.wp_bind', Sem.wp_cmd_standAt]
  refine Sem.wp_mono (MM c.w) Γ _ (fun b p₂ s₂ h₂ => ?_) (fun _ _ _ h' => h') _ _ (h.use S Γ _ hΓ hc)
  obtain ⟨vs', nw', S', h1, h2⟩ := h₂
  cases b with
  | true => exact (h1 rfl).run pin s₂ S' Γ p₂ hΓ hc
  | false => exact (h2 rfl).run pin s₂ S' Γ p₂ hΓ hc
theorem trx_Compare {P : Bool → Vs → Nw → Prop} {l r : Expr} {op : CmpOp} {pos : Pos} {whole : Sem Value} (h : DoX c (eval l c.env) (fun a => DoX c (eval r c.env) (fun b => Do c (compareOp op a b) (fun v vs nw => ∃ b, v = .bool b ∧ P b vs nw))) vs nw)
    (hm : behindInMarks op r = false := by with_unfolding_all rfl) : DoX c (isTrue (.Compare l [op] [r] pos) c.env whole) P vs nw := DoX.mk fun pin s S Γ p hΓ hc => by
  simp only [isTrue_Compare1, markedBehindIn_of_false hm, Sem.wp_bind', Sem.wp_holding, Sem.wp_cmd_standAt, Sem.wp_operate]
  exact Sem.wp_mono (MM c.w) Γ _ (fun a p₁ s₁ ⟨_, _, S₁, h₁⟩ => Sem.wp_mono (MM c.w) Γ _ (fun b _ s₂ ⟨_, _, S₂, h₂⟩ => Sem.wp_mono (MM c.w) Γ _ (fun v p₃ s₃ ⟨vs₃, nw₃, S₃, b', e, h₃⟩ => by
    subst e; exact fun _ => ⟨vs₃, nw₃, S₃, h₃⟩)
    (fun _ _ _ h' => h') _ _ (h₂.use S₂ Γ _ hΓ)) (fun _ _ _ h' => h') _ _ (h₁.use S₁ Γ p₁ hΓ hc)) (fun _ _ _ h' => h') _ _ (h.use S Γ p hΓ hc)
theorem dox_Compare {Q : Value → Vs → Nw → Prop} {l r : Expr} {op : CmpOp} {pos : Pos} (h : DoX c (eval l c.env) (fun a => DoX c (eval r c.env) (fun b => Do c (compareOp op a b) Q)) vs nw)
    (hm : behindInMarks op r = false := by with_unfolding_all rfl) : DoX c (eval (.Compare l [op] [r] pos) c.env) Q vs nw := DoX.mk fun pin s S Γ p hΓ hc => by
  simp only [eval_Compare1, markedBehindIn_of_false hm, Sem.wp_bind', Sem.wp_holding, Sem.wp_cmd_standAt, Sem.wp_operate]
  exact Sem.wp_mono (MM c.w) Γ _ (fun a p₁ s₁ ⟨_, _, S₁, h₁⟩ => Sem.wp_mono (MM c.w) Γ _ (fun b _ s₂ ⟨_, _, S₂, h₂⟩ => h₂.run pin s₂ S₂ Γ _ hΓ)
    (fun _ _ _ h' => h') _ _ (h₁.use S₁ Γ p₁ hΓ hc)) (fun _ _ _ h' => h') _ _ (h.use S Γ p hΓ hc)
theorem dox_BinOp {Q : Value → Vs → Nw → Prop} {l r : Expr} {op : Operator} {pos : Pos} (h : DoX c (eval l c.env) (fun a => DoX c (eval r c.env) (fun b => Do c (binaryOp op a b) Q)) vs nw) : DoX c (eval (.BinOp l op r pos) c.env) Q vs nw := DoX.mk fun pin s S Γ p hΓ hc => by
  simp only [eval_BinOp, Sem.wp_bind', Sem.wp_holding, Sem.wp_cmd_standAt, Sem.wp_operate]
  exact Sem.wp_mono (MM c.w) Γ _ (fun a p₁ s₁ ⟨_, _, S₁, h₁⟩ => Sem.wp_mono (MM c.w) Γ _ (fun b _ s₂ ⟨_, _, S₂, h₂⟩ => h₂.run pin s₂ S₂ Γ _ hΓ)
    (fun _ _ _ h' => h') _ _ (h₁.use S₁ Γ p₁ hΓ hc)) (fun _ _ _ h' => h') _ _ (h.use S Γ p hΓ hc)

theorem dox_CallF {Q : Value → Vs → Nw → Prop} (D : Fd) (i : Nat) {x : Str} {np pos : Pos} {args : List Expr} (hk : c.gs[i]? = some (x, .ref D.f)) (h : Do c (spliced (backTo pos (starEach args c.env))) (fun as => DoX c (call (.ref D.f) as) Q) vs nw)
    (hp : (backTo pos (starEach args c.env)).any (·.1) = false := by rfl) : DoX c (eval (.Call (.Name x np) args [] pos) c.env) Q vs nw := DoX.mk fun pin s S => by
  obtain ⟨o, ho, hd⟩ := D.ho c.w
  show wpX _ _ (do callWith pos (← eval (.Name x np) c.env) [] (backTo pos (starEach args c.env)) (backToKw pos (keywordEach [] c.env))) _ _ s
  refine wpX_bind (wpX_of (wpAny_mono ((do_glob (Q := fun v vs' nw' => v = .ref D.f ∧ vs' = vs ∧ nw' = nw) i hk ⟨rfl, rfl, rfl⟩).use S) (fun f s₁ ⟨_, _, S₁, e1, e2, e3⟩ => ?_) fun _ _ x => x))
  subst e1 e2 e3
  unfold callWith
  refine wpX_bind (wpX_holding (wpX_of (evalArgs_of hp (wpAny_mono (h.use S₁) (fun as s₂ ⟨_, _, S₂, h₂⟩ => wpX_bind (wpX_standAt ?_)) fun _ _ x => x))))
  have tail : ∀ {t : Sem Value} {Q : Value → Shared → Prop}, wpX (MM c.w) c.A t Q (fun _ _ => False) s₂ → wpX (MM c.w) c.A (t >>= fun r => holding [r] point >>= fun _ => pure r) Q (fun _ _ => False) s₂ :=
    fun ht => wpX_bind (wpX_mono ht (fun r s₂ hr => wpX_of (wpAny_bind (wpAny_holding (wpAny_point (wpAny_pure hr))))) fun _ _ x => x)
  rw [hp]
  refine wpX_bind (m := keeperOf (.ref D.f)) ?_
  unfold keeperOf
  refine wpX_bind (wpX_of (wpAny_load (S₂.gr.K _ _ ho) ?_))
  rw [hd]
  refine wpX_pure ?_
  rw [show (false || (backToKw pos (keywordEach [] c.env)).any fun x => x.1.isNone) = false from rfl]
  dsimp only
  split
  · exact tail (h₂.run pin s₂ S₂)
  · exact tail (wpX_keep (h₂.run pin s₂ S₂))

/-- a contract under the claim's caller -/
noncomputable def FnX (f : Addr) (n : Nat) (args : List Value) (ro : Nw) (Post : Value → Nw → Prop) : Prop :=
  ∀ (w : World) (A : Around) (s : Shared), Rm n A → Gr w s.heap → AllBare s.gens → 1 ≤ s.toks → (∀ p ∈ ro, s.heap.get? p.1 = some p.2 ∧ p.1 ≠ 53) →
    codeX (MM w) A (.call (.ref f) ⟨args, []⟩) (fun r s' => ∃ v nw, r = .ok (.ret v) ∧ FnR w s Post v nw s') s
end

end Mine
end

section
open PySem PySem.W PySem.Calls PyProof.Rows PySem.SeqAt
set_option maxRecDepth 100000
set_option linter.unusedVariables false
namespace Mine
section
variable {c : Cx} {vs : Vs} {nw : Nw} {l : Addr} {xs : List Value} {n : Nat}

structure ForX (c : Cx) (target : Expr) (body : List Stmt) (xv : Value) (Q : Flow → Vs → Nw → Prop) (vs : Vs) (nw : Nw) : Prop where
  run : ∀ pin s, St c pin vs nw s → wpAny (MM c.w) c.A (pyIter xv) (fun it s₂ => codeX (MM c.w) c.A (.forLoop target it body [] c.env) (fun r s' => ∃ f vs' nw', r = .ok f ∧ St c pin vs' nw' s' ∧ Q f vs' nw') s₂) (fun _ _ => False) s

theorem dox_For {target iter : Expr} {body : List Stmt} {pos : Pos} {Q : Flow → Vs → Nw → Prop} (h : Do c (eval iter c.env) (fun xv => ForX c target body xv Q) vs nw)
    (hs : ∀ x, foldedSetIterable iter c.env x = pure x := by intro _; rfl) : DoX c (exec (.For target iter body [] pos) c.env) Q vs nw := DoX.mk fun pin s S => by
  rw [exec_For]
  refine wpX_bind (wpX_standAt ?_)
  refine wpX_bind (wpX_of (wpAny_mono (h.use S) (fun x s₁ hx => ?_) fun _ _ x => x))
  obtain ⟨_, _, S₁, h₁⟩ := hx
  rw [hs x]
  refine wpX_bind (wpX_pure ?_)
  refine wpX_bind (wpX_standAt ?_)
  refine wpX_bind (wpX_holding (wpX_of (wpAny_mono (h₁.run pin s₁ S₁) (fun it s₂ h₂ => ?_) fun _ _ x => x)))
  refine wpX_runOwn (codeX_mono h₂ fun r s' hr => ?_)
  obtain ⟨f, vs', nw', e, S', q⟩ := hr
  subst e
  exact fun _ => ⟨vs', nw', S', q⟩

noncomputable def walkInv (c : Cx) (pin : Pin) (I : Nat → Vs → Nw → Prop) (St₀ : Nat → Heap → Prop) (wr : List Addr) (n m : Nat) (s' : Shared) : Prop :=
  ∃ k vs nw, m = n + 1 - k ∧ k ≤ n ∧ St c pin vs nw s' ∧ I k vs nw ∧ St₀ k s'.heap ∧ ∀ b ∈ wr, c.env.locals < b ∧ (∀ o, ¬ pin b o) ∧ ∀ p ∈ nw, p.1 ≠ b
/-- a loop by an iterator: `ext`: the objects outside the iterator that it reads -/
theorem for_walkX {target : Expr} {body : List Stmt} {xv : Value} {Q : Flow → Vs → Nw → Prop} {n : Nat} {P : Nat → Value → Prop} (ext : Nw) (I : Nat → Vs → Nw → Prop)
    (hit : ∀ pin s, St c pin vs nw s → wpAny (MM c.w) c.A (pyIter xv) (fun it s₂ => ∃ a fp wr St₀ h' tk, it = .ref a ∧ s₂ = { s with heap := h', toks := tk } ∧ Walks PR c.w c.A a fp wr n P St₀ ∧ St₀ 0 h' ∧
      (∀ b o, s.heap.get? b = some o → h'.get? b = some o) ∧ (∀ b ∈ wr, s.heap.objs.size ≤ b) ∧ (∀ b ∈ fp, b ∈ wr ∨ ∃ o, (b, o) ∈ ext) ∧ (∀ k h, St₀ k h → ∀ b ∈ wr, ∃ o, h.get? b = some o) ∧ ∀ (k : Nat) (s' : Shared) (v : Value) (Q' : Unit → Shared → Prop) (E' : Value → Shared → Prop), St₀ k s'.heap → P (k - 1) v → Q' () s' → wpAny (MM c.w) c.A (letOwnedTupleGo target (.ref a) v) Q' E' s') (fun _ _ => False) s)
    (h0 : I 0 vs nw) (hext : ∀ k vs nw, I k vs nw → ∀ p ∈ ext, Has c nw p.1 p.2)
    (turn : ∀ k v vs nw, k < n → P k v → I k vs nw → Do c (assign target c.env v) (fun _ => DoX c (execs body c.env) (bodyQ I k Q)) vs nw)
    (fin : ∀ vs nw, I n vs nw → Q .next vs nw) : ForX c target body xv Q vs nw := ForX.mk fun pin s S => by
  refine wpAny_with_toks S.tk (wpAny_mono (hit pin s S) (fun it s₂ hh ht => ?_) fun _ _ x => x.elim)
  obtain ⟨a, fp, wr, St₀, h', tk, rfl, rfl, W, st0, hk, hwr, hfp, hex, hgo⟩ := hh
  have S₀ : St c pin vs nw { s with heap := h', toks := tk } := S.ext hk ht
  refine codeX_forLoop (walkInv c pin I St₀ wr n) ?_ (n + 1)
    ⟨0, vs, nw, rfl, Nat.zero_le _, S₀, h0, st0, fun b hb => notMem_of_ge S (hwr b hb)⟩
  rintro m s' ⟨k, vs₁, nw₁, rfl, hkn, S₁, I₁, st₁, hw₁⟩
  by_cases hlt : k < n
  · refine wpX_of (wpAny_with_toks S₁.tk (W.item k s' _ _ hlt st₁ fun v h₂ tk₂ hv st₂ hk₂ ht₂ => ?_))
    have S₂ : St c pin vs₁ nw₁ { s' with heap := h₂, toks := tk₂ } := S₁.extBut hk₂ hw₁ ht₂
    refine wpX_of (hgo (k + 1) _ v _ _ st₂ hv ?_)
    refine wpX_of (wpAny_mono ((turn k v vs₁ nw₁ hlt hv I₁).use (pin := fun b o => pin b o ∨ (b ∈ wr ∧ h₂.get? b = some o ∧ b ≠ 53)) ?_) (fun _ s₃ h₃ => ?_) fun _ _ x => x.elim)
    · refine S₂.pinMore (fun b o q => ?_) fun b o q => .inl q
      rcases q with q | ⟨q1, q2, q3⟩
      · exact .inl q
      · exact .inr ⟨q2, Nat.ne_of_gt (hw₁ b q1).1, q3, (hw₁ b q1).2.2⟩
    · obtain ⟨vs', nw', S₃, h₃⟩ := h₃
      refine wpX_mono (h₃.use S₃) (fun f s₄ h₄ => ?_) fun _ _ x => x.elim
      obtain ⟨vs₄, nw₄, S₄, h₄⟩ := h₄
      have S₅ : St c pin vs₄ nw₄ s₄ := S₄.pinLess (fun b o q => .inl q) S₁.ro
      have go : I (k + 1) vs₄ nw₄ → ∃ m, m < n + 1 - k ∧ walkInv c pin I St₀ wr n m s₄ := by
        intro I₄
        refine ⟨n + 1 - (k + 1), by omega, k + 1, vs₄, nw₄, rfl, hlt, S₅, I₄, W.frame _ _ _ st₂ fun b hb o e => ?_, fun b hb => ⟨(hw₁ b hb).1, (hw₁ b hb).2.1, fun p hp e => ?_⟩⟩
        · rcases hfp b hb with hm | ⟨o', ho'⟩
          · exact S₄.pinned b o (.inr ⟨hm, e, hi_ne (Nat.le_trans c.low (Nat.le_of_lt (hw₁ b hm).1))⟩)
          · have g1 := (S₂.get (hext k vs₁ nw₁ I₁ _ ho')).1
            have g2 := (S₅.get (hext (k + 1) vs₄ nw₄ I₄ _ ho')).1
            have : o = o' := Option.some.inj (e.symm.trans g1)
            rw [this]; exact g2
        · -- an owned object is not pinned, the iterator's are
          obtain ⟨o, hq⟩ := hex _ _ st₂ b hb
          exact (S₄.nwA p hp).2 o (e ▸ .inr ⟨hb, hq, hi_ne (Nat.le_trans c.low (Nat.le_of_lt (hw₁ b hb).1))⟩)
      cases f with
      | next => exact go h₄
      | cont => exact go h₄
      | brk => exact ⟨_, vs₄, nw₄, rfl, S₅, h₄⟩
      | ret v => exact ⟨_, vs₄, nw₄, rfl, S₅, h₄⟩
  · have hkn' : k = n := by omega
    subst hkn'
    exact wpX_of (wpAny_with_toks S₁.tk (W.done s' _ _ st₁ fun h₂ tk₂ hk₂ ht₂ => ⟨_, vs₁, nw₁, rfl, S₁.extBut hk₂ hw₁ ht₂, fin vs₁ nw₁ I₁⟩))


theorem forX_list {i : Nat} {x : Str} {px : Pos} {body : List Stmt} {Q : Flow → Vs → Nw → Prop} (hx : c.ks[i]? = some x) (I : Nat → Vs → Nw → Prop) (h0 : I 0 vs nw) (hh0 : Has c nw l (lstOf xs n)) (hh : ∀ k vs nw, I k vs nw → Has c nw l (lstOf xs n))
    (turn : ∀ k v vs nw, xs[k]? = some v → I k vs nw → DoX c (execs body c.env) (bodyQ I k Q) (vs.set i (some v)) nw)
    (fin : ∀ vs nw, I xs.length vs nw → Q .next vs nw) : ForX c (.Name x px) body (.ref l) Q vs nw := by
  refine for_walkX (n := xs.toArray.size) (P := fun i v => xs.toArray[i]? = some v) [(l, lstOf xs n)] I (fun pin s St => ?_) h0 (fun k vs nw hI p hp => ?_) (fun k v vs nw hk hv hI => ?_) (fun vs nw hI => fin vs nw (by simpa using hI))
  · have hl := isL St hh0
    have hlt : l < s.heap.objs.size := Heap.lt_size (St.get hh0).1
    refine wpAny_pyIter_list hl ⟨_, [s.heap.objs.size, l], [s.heap.objs.size], _, _, _, rfl, rfl, Walks.list c.hh s.heap.objs.size l (Nat.ne_of_lt hlt) xs.toArray, ⟨⟨_, Heap.get?_push_size _ rfl, rfl, rfl⟩, hl.push _⟩, fun b o e => Heap.get?_push_of_some _ e, fun b hb => ?_, fun b hb => ?_, fun k h st b hb => ?_, fun k s' v Q' E' st hv hq => wpAny_pure hq⟩
    · rw [List.mem_singleton.mp hb]; exact Nat.le_refl _
    · rcases List.mem_cons.mp hb with rfl | hb
      · exact .inl (.head _)
      · rw [List.mem_singleton.mp hb]; exact .inr ⟨_, .head _⟩
    · rw [List.mem_singleton.mp hb]; obtain ⟨o, e, _⟩ := st.1; exact ⟨o, e⟩
  · rw [List.mem_singleton.mp hp]; exact hh k vs nw hI
  · exact do_assignName hx (turn k v vs nw (by simpa using hv) hI)
end
end Mine
end

section
open PySem PySem.W PySem.Calls PyProof.Rows
set_option maxRecDepth 100000
set_option linter.unusedVariables false
namespace Mine

/-! the head, for a walk under the claim's caller -/
theorem cal0 : Cal (⟨.builtin "claim.caller" {}, none, none, [], none⟩ : Ctx) := by
  unfold Cal; rfl
theorem wp_of_wpX {M : Model} {t : Sem PySem.Fin} {R : Result → Shared → Prop} {s : Shared}
    (h : wpX M callerA t (fun fin s' => ∃ f, fin = .done f ∧ R (.ok f) s') (fun e s' => R (.error e) s') s) (p : Pos) :
    Sem.wp M (⟨.builtin "claim.caller" {}, none, none, [], none⟩ : Ctx) t (Sem.finPost M (⟨.builtin "claim.caller" {}, none, none, [], none⟩ : Ctx) R) (fun e _ s' => R (.error e) s') p s := by
  refine Sem.wp_mono M _ _ (fun fin p' s' h' => ?_) (fun _ _ _ h' => h') p s (h _ p caller_in cal0)
  obtain ⟨f, rfl, hR⟩ := h'
  exact hR
theorem thread_endsX {prog : Program} {w : World} {t : Sem PySem.Fin} {s : Shared} {R : Result → Shared → Prop} (hreg : s.asleep)
    (h : wpX (model prog w) callerA t (fun fin s' => ∃ f, fin = .done f ∧ (R (.ok f) s' ∧ leftWithCleanup s'.gens = false)) (fun e s' => R (.error e) s' ∧ leftWithCleanup s'.gens = false) s) :
    ∃ n r s' s'', runN (denote table) prog w n s ⟨t, .builtin "claim.caller" {}, default, []⟩ = .halted (outcomeOf r) s' ∧
      schedN (denote table) prog w n (.single s ⟨t, .builtin "claim.caller" {}, default, []⟩) = .halted (outcomeOf r) s' ∧ s'.forget = s''.forget ∧ R r s'' := by
  obtain ⟨n, r, s₁, s₂, hs, hn, hfo, hR⟩ := wp_halts_full (M := model prog w) (R := R) hreg (wp_of_wpX (R := fun r s' => R r s' ∧ leftWithCleanup s'.gens = false) h default)
  exact ⟨n, r, s₂, s₁, hn, hs, hfo, hR⟩
theorem callFromX {c : ClaimW} {tree : List Value → Sem PySem.Fin} {w : World} {s : Shared} {free : Addr → Prop} {gens : Prop} {kept : Heap → Prop} (hz : s.asleep) (hgens : s.gens = #[])
    (hspec : ∀ args, c.pre args = true → WData.layableAll args = true →
      ∀ ord : List DictEntry → List DictEntry, (∀ l, (ord l).Perm l) →
      ∃ vs s₁, layAllW c.records (classAt s.heap) w.params ord args s = some (vs, s₁) ∧
        wpX (model c.prog w) callerA (tree vs) (fun fin s' => ∃ f, fin = .done f ∧ (c.Ends s args vs s₁ (.ok f) s' ∧ s'.os = s.os ∧ AllBare s'.gens ∧ kept s'.heap))
          (fun e s' => c.Ends s args vs s₁ (.error e) s' ∧ s'.os = s.os ∧ AllBare s'.gens ∧ kept s'.heap) s₁) :
    c.CallFrom (fun vs => ⟨tree vs, .builtin "claim.caller" {}, default, []⟩) w free gens kept s := by
  intro args hpre hlay ord hord
  refine gopq fun G' hG => ?_
  obtain ⟨vs, s₁, hlaid, hcode⟩ := hspec args hpre hlay ord hord
  have hal := layAllW_rest _ _ _ hlaid
  obtain ⟨k, r, s', s'', hrun, hsched, hfo, hcase, hos, hkp⟩ := thread_endsX (prog := c.prog) (w := w) (t := tree vs) (s := s₁)
    (R := fun r s' => c.Ends s args vs s₁ r s' ∧ s'.os = s.os ∧ kept s'.heap)
    (Shared.asleep_of_life hal.2.2.2 hz)
    (wpX_mono hcode (by
      rintro fin s' ⟨f, e, h1, h2, h3, h4⟩
      exact ⟨f, e, ⟨h1, h2, h4⟩, leftWithCleanup_false_of_bare h3⟩) (by
      rintro e s' ⟨h1, h2, h3, h4⟩
      exact ⟨⟨h1, h2, h4⟩, leftWithCleanup_false_of_bare h3⟩))
  obtain ⟨eh, _, _, eo, _⟩ := Shared.forget_eq hfo
  have hcase := hcase.congr eh
  have hkp : kept s'.heap := by first | exact eh ▸ hkp | (rw [eh] at hkp; exact hkp) | (rw [← eh] at hkp; exact hkp)
  rw [← eo] at hos
  have hlife : s'.heap.life = s.heap.life := (runN_life _ _ _ hrun).trans hal.2.2.2
  refine hG ⟨vs, s₁, hlaid, k, _, s', hsched, ?_, (fun _ i x hx => by rw [hgens] at hx; simp at hx), hkp, by rw [hlife], Shared.rest_eq hos⟩
  refine gopq fun G' hG => ?_
  rcases hcase with ⟨v, rfl, d1, d2, d3, d4, d5⟩ | ⟨e, ob, cls, rfl, d1, d2, d3, d4, d5⟩
  · exact hG (.inl ⟨v, rfl, d1, d2, d3, fun b o y _ => d4 b o y, d5⟩)
  · exact hG (.inr ⟨e, ob, cls, rfl, d1, d2, d3, d4, fun b o y _ => d5 b o y⟩)

noncomputable abbrev WalkY (q : Program) (loose : List Str) (XP : (Str → Option Value) → Heap → Prop) (YP : World → Heap → Prop) (r : RowW) (d : DefRec) (kwd : List (Str × Expr)) : Prop :=
  ∀ (w : World) (s₀ s₁ : Shared) (mg mb : Str → Option Value), Ground q loose r.records XP w s₀ mg mb s₁.heap → YP w s₁.heap → ∀ (a : Addr) (o : Obj) (pm cd doc dV kV : Value), s₁.heap.get? a = some o →
    o.data = .func { docDef d.name d.params d.body d.scope pm cd doc with defaults := dV, kwdefaults := kV } → s₁.heap.CodeRec cd d.name → Dflts mg s₁.heap d.params kwd dV kV → mg d.name = some (.ref a) → s₁.gens = #[] →
    ∀ (args : List WData) (vals : List Value) (as : List Addr), r.claim.pre args = true → WData.layableAll args = true → ReadsAllW r.records (classAt s₀.heap) s₁.heap vals args as → WellAll w.params s₁.heap vals args → (∀ a ∈ as, (a == sysModules) = false) →
      wpX (model r.prog w) callerA (PySem.call (.ref a) vals) (fun v s' => GoodWG r.claim (classAt s₀.heap) (ExcName.means s₀.heap) args s₁ (.ok (.ret v)) s')
        (fun e s' => GoodWG r.claim (classAt s₀.heap) (ExcName.means s₀.heap) args s₁ (.error e) s') s₁

theorem holdsY {r : OpenRow} {q : Program} {loose : List Str} {Xt : Shared → Bool} {XP : (Str → Option Value) → Heap → Prop} {α : Type} {Yf : Shared → α} {Ya : World → α} {YP : World → Heap → Prop} {d : DefRec} {kwd : List (Str × Expr)} {N : Nat}
    (left : LeftO r.prog q loose Xt Yf Ya N) (hY : ∀ w s, Yf s = Ya w → YP w s.heap) (hYk : ∀ w h h', YP w h → (∀ b o, h.get? b = some o → h'.get? b = some o) → YP w h')
    (hX : ∀ s, Xt s = true → XP (s.heap.nsMap mainGlobals) s.heap) (hXk : ∀ mg h h', XP mg h → (∀ b o, h.get? b = some o → h'.get? b = some o) → XP mg h')
    (hdef : defOf q r.name = some (d, kwd)) (hp : r.prog.theDef r.name = some (d.params, d.body, d.scope)) (hk : kwWritten? d.params.kwonlyargs d.params.kw_defaults = some kwd) (hRf : ∀ s, Xt s = true → RecFacts r.records s.heap) (hwr : (!r.writes || r.records.isEmpty) = true)
    (k1 : r.wellSaid = true) (ok : (chainsOk q && opensWell r.prog && (frees r.toRowW && r.within.isEmpty)) = true) (hb : r.prog.bare) (hw : r.toRowW.promised)
    (call : WalkY q loose XP YP r.toRowW d kwd) : r.Holds := by
  refine ⟨k1, hw, ?_⟩
  obtain ⟨ok, k5⟩ := Bool.and_eq_true_iff.mp ok
  obtain ⟨hch, o1⟩ := Bool.and_eq_true_iff.mp ok
  obtain ⟨k5, k6⟩ := Bool.and_eq_true_iff.mp k5
  obtain ⟨hsame, hu, ha, hap, hm⟩ := frees_parts k5
  refine ⟨⟨hb, o1, by show r.makers.map _ = []; rw [hm]; rfl⟩, hw.witness, fun w => ⟨(left.behind hX hch w).1, fun s' hs' => ?_⟩⟩
  refine gopq fun G' hG => ?_
  obtain ⟨s₀, hf, hg0, s, hT, hz, hgens, hg, G00, y⟩ := (left.behind (XP := fun mg h => XP mg h ∧ RecFacts r.records h) (fun s hs => ⟨hX s hs, hRf s hs⟩) hch w).2 s' hs'
  have G0 : Ground q loose [] XP w s (s.heap.nsMap mainGlobals) (s.heap.nsMap builtinsNs) s.heap := ⟨G00.T, G00.B, G00.D, G00.TE, G00.TD, G00.W, G00.X.1, G00.cls, G00.has, G00.apart, G00.once, G00.K⟩
  have RF := G00.X.2
  have hT' := hT
  refine hG ⟨s₀, hf, hg0, s, hT, (fun n hn => ?_), RF.1, RF.2.1, ?_⟩
  · obtain rfl : n = r.name := by split at hn <;> simp_all
    exact pinned_of_view hg G0 hdef hp hk
  have hgens : s.gens = #[] := Array.eq_empty_of_size_eq_zero (beq_iff_eq.mp hgens)
  have G : Ground q loose r.records XP w s _ _ s.heap := RF.ground G0
  refine callFromX (c := r.toRowW.claim) hz hgens fun args hpre hlay ord hord => ?_
  refine gopq fun G' hG => ?_
  obtain ⟨⟨vs, s₁⟩, hlaid⟩ := Option.isSome_iff_exists.mp (layAllW_isSome (P := w.params) (ord := ord) G.has args r.args s (pre_splitW hpre).1)
  have keeps := layAllW_keeps _ _ _ hlaid
  have hal := layAllW_rest _ _ _ hlaid
  obtain ⟨as, hrd, hin, hold⟩ := reads_layAllW hord _ _ _ hlaid hlay s₁.heap (fun _ _ e => e)
  have L : Laid r.records w s s₁ args vs as := ⟨⟨ord, hord, hlaid⟩, hrd, hin, hold, keeps, hal.1.trans hgens, hal.2.2.1⟩
  have G₁ := G.keeps hXk keeps
  have Y₁ := hYk _ _ _ (hY w s y) keeps
  obtain ⟨a, o, pm, cd, doc, dV, kV, h1, h2, h3, h4, h5⟩ := G₁.fn hdef
  have h := call w s s₁ _ _ G₁ Y₁ a o pm cd doc dV kV h2 h3 h4 h5 (defOf_name hdef ▸ h1) L.gens args vs as hpre hlay L.reads L.well (L.low G.low)
  have hi := ident_freeW hu ha hap
  have hwi : r.toRowW.claim.within = [] := List.isEmpty_iff.mp k6
  refine hG ⟨vs, s₁, hlaid, ?_⟩
  refine wpX_bind (wpX_of (wpAny_nsGet G₁.T.g ?_))
  rw [h1]
  refine wpX_bind (wpX_mono h (fun v s' g => wpX_pure ⟨_, rfl, ?_⟩) fun e s' g => ?_)
  · have z := g.laid (c := r.toRowW.claim) hsame hwi hi L
    exact ⟨z.1, z.2.1, z.2.2, fun q => ⟨namesKept_of hT' hg _ keeps g.2.1.old, noTable hwr q⟩⟩
  · have z := g.laid (c := r.toRowW.claim) hsame hwi hi L
    exact ⟨z.1, z.2.1, z.2.2, fun q => ⟨namesKept_of hT' hg _ keeps g.2.1.old, noTable hwr q⟩⟩
end Mine
end

section
open PySem PySem.W PySem.Calls PyProof.Rows
set_option maxRecDepth 100000
set_option maxHeartbeats 0
set_option linter.unusedVariables false
namespace Mine

noncomputable def hkeys : List Addr := [2, 3, 32, 34, 35, 37, 38, 42, 43, 44, 45, 47, 48, 50, 51, 52, 54, 55, 57, 58, 59, 61, 62, 64, 65, 66, 73, 75, 76, 78, 79, 80, 81, 82, 85, 92, 94, 95, 97, 98, 99, 101, 102, 104, 105, 106, 108, 109, 111, 112, 113, 114, 115, 118, 120, 121, 123, 124, 125, 127, 128, 130, 131, 132, 134, 135, 137, 138, 139, 141, 142, 144, 145, 146, 148, 149, 151, 152, 153, 155, 156, 158, 159, 160, 162, 163, 165, 166, 167, 169, 170, 172, 173, 174, 176, 177, 179, 180, 181, 183, 184, 186, 187, 188, 190, 191, 193, 194, 195, 197, 198, 200, 201, 202, 205, 206, 207, 209, 210, 212, 213, 214, 216, 217, 219, 220, 221, 223, 224, 226, 227, 228, 231, 232, 233, 235, 236, 238, 239, 240, 242, 243, 245, 246, 247, 249, 250, 252, 253, 254, 256, 257, 259, 260]
noncomputable def hook : Hook := kHook hd.heap_39 hkeys (fun _ => by kernel_rfl)
noncomputable def lLoose : List Str := [Str.ofString "_twin_re_1", Str.ofString "_ver_stages"]
noncomputable def lXt : Shared → Bool := fun s => xlAt hd.view_39 [] s && recOk PySem.Challenge.rw_pd0012_01.row.records s

theorem leftK : LeftO PR hd.view_39 lLoose lXt hook.obs hook.val 3406 :=
  LeftO.of_pieces (H₀ := hd.heap_68) (H₁ := hd.heap_317) (gs₀ := #[]) (gs₁ := #[]) (d₀ := {}) (d₁ := {}) (k₀ := 276) (k₁ := 695) (m₀ := 28) (ann := some (.ref 6))
    (M := Nat.add 12 (Nat.add 1 (Nat.add 393 (Nat.add 228 (Nat.add 389 (Nat.add 370 (Nat.add 265 2)))))))
    (open_cut (M := (Nat.add 40 (Nat.add 40 (Nat.add 40 (Nat.add 40 (Nat.add 40 (Nat.add 40 (Nat.add 40 (Nat.add 40 (Nat.add 40 (Nat.add 40 (Nat.add 40 (Nat.add 40 (Nat.add 40 (Nat.add 40 (Nat.add 40 (Nat.add 40 (Nat.add 40 (Nat.add 40 (Nat.add 40 (Nat.add 38 1))))))))))))))))))))) (He := fun P => absHeap (hd.tree_382 P) 28 {}) (H₀ := hd.heap_68) (ge := #[]) (g₀ := #[]) (de := {}) (d₀ := {}) (ke := 276) (k₀ := 276) hd._proof_387 (by decide) hd._proof_389) hd._proof_391 hd._proof_320 (by decide) (fun w => funext fun os => by kernel_rfl)
end Mine
end

section
open PySem PySem.W PySem.Calls PyProof.Rows
set_option maxRecDepth 100000
set_option maxHeartbeats 0
set_option linter.unusedVariables false
namespace Mine

noncomputable abbrev RW : OpenRow := PySem.Challenge.rw_pd0012_01.row
theorem lawSome : (defOf hd.view_39 RW.name).isSome = true := by kernel_rfl
noncomputable def lawD : DefRec := ((defOf hd.view_39 RW.name).get lawSome).1
theorem lawDef : defOf hd.view_39 RW.name = some (lawD, []) := by kernel_rfl
theorem headY (walk : WalkY hd.view_39 lLoose (XL hd.view_39 []) hook.says RW.toRowW lawD []) : PySem.Challenge.rw_pd0012_01.Holds := by
  refine holds_law (by decide +kernel) fun said => ?_
  refine holdsY (d := lawD) (kwd := []) leftK hook.of hook.keeps (fun s e => xl_of s (Bool.and_eq_true_iff.mp e).1) XL.keeps lawDef (by kernel_rfl) (by kernel_rfl) (fun s e => recFacts_of (Bool.and_eq_true_iff.mp e).2) (by rfl) said (by decide +kernel) ⟨rfl, rfl, rfl, rfl, rfl, by decide +kernel⟩ ?_ walk
  w_witness2
end Mine
end

section
open PySem PySem.W PySem.Calls PyProof.Rows
set_option maxRecDepth 100000
set_option linter.unusedVariables false
namespace Mine

theorem platRec : ((recsOf hd.view_39).any fun d => d.name == ("_platform" : Str)) = true := by kernel_rfl
theorem kPlat (w : World) : (nsIn (KK w) mainGlobals "_platform" == some (some (.ref 58))) = true := by kernel_rfl
theorem kPlatCode (w : World) : (match (KK w).lookup 58 with | some ⟨_, _, .func fd, _⟩ => fd.code == .ref 57 | _ => false) = true := by kernel_rfl
theorem kCode57 (w : World) : (match (KK w).lookup 57 with | some ⟨_, _, .fields vs, _⟩ => vs.getD 11 .none == .ref 53 | _ => false) = true := by kernel_rfl

theorem kBuiltins (w : World) : (nsIn (KK w) mainGlobals "__builtins__" == some (some (.ref 4))) = true := by kernel_rfl

theorem gr_of {loose : List Str} {R : WRecords} {XP : (Str → Option Value) → Heap → Prop} {w : World} {s₀ : Shared} {mg mb : Str → Option Value} {h : Heap} (G : Ground hd.view_39 loose R XP w s₀ mg mb h) (K : (KK w).In h) : Gr w h := by
  refine ⟨K, ⟨mg, G.T.g⟩, ⟨mb, G.T.b, G.T.builtins⟩, G.T.nolimit, G.T.nodigits, ?_, ?_⟩
  rotate_left
  · obtain ⟨bm, ob, h1, h2, h3, h4, h5, h6⟩ := G.T.bmain
    rw [mg_of K G.T.g (eq_of_beq (kBuiltins w))] at h1
    cases h1
    exact ⟨ob, h3, h4, h5, h6⟩
  obtain ⟨d, hd, hn⟩ := List.any_eq_true.mp platRec
  obtain ⟨a, o, fd, c, P, h1, h2, h3, h4, h5, h6⟩ := G.T.tab d hd
  rw [eq_of_beq hn] at h1
  have ha : mg "_platform" = some (.ref 58) := mg_of K G.T.g (eq_of_beq (kPlat w))
  rw [ha] at h1
  cases h1
  have k1 := kPlatCode w
  split at k1
  · rename_i cls dd fd' sl e
    have g := K _ _ e
    rw [h2] at g
    cases g
    cases h3
    have : fd.code = .ref 57 := eq_of_beq k1
    rw [this] at h4
    cases h4
    have k2 := kCode57 w
    split at k2
    · rename_i cls2 dd2 vs2 sl2 e2
      have g2 := K _ _ e2
      obtain ⟨o', vs', file, tf, flags, tg, inF, text, tt, op, a', r1, r2, r⟩ := id h5
      rw [g2] at a'
      cases a'
      cases r1
      have : vs2.getD 11 .none = .ref 53 := eq_of_beq k2
      rw [this] at r2
      cases r2
      exact ⟨#[], h5, h6⟩
    · cases k2
  · cases k1
end Mine
end

section
open PySem PySem.W PySem.Calls PyProof.Rows
set_option maxRecDepth 100000
set_option linter.unusedVariables false
namespace Mine
open PySem.NumText PySem.W.KIN

theorem typeCall_int_2 (a b : Value) : checkTypeCall "int" ⟨[a, b], []⟩ = pure () := by kernel_rfl
theorem newCall_int_2 (a b : Value) : checkBuiltinCall "int.__new__" ⟨[.type "int", a, b], []⟩ = pure () := by kernel_rfl

structure Hid (p : Prop) : Prop where
  out : p
set_option maxHeartbeats 4000000 in
theorem gives_int2 {x : Str} {u v : Tok} {n : Int} (hl : x.length ≤ 640) (hn : PySem.intText? x = some n) : Gives (Builtin.«int.__new__» ⟨[.type "int", .str x u, .int 10 v], []⟩) (.int n) :=
  .of_wp fun M A E s Q h => by
    obtain ⟨hp, g, d, tk, os⟩ := s
    have f1 := F.conv_sub_int
    have f2 := F.madeHere_int
    have f6 : typeOf (.str x u) = pure (.type "str") := rfl
    have hs : (numSeenOf x).length ≤ 640 := Nat.le_trans (seen_length x) hl
    have hr : (int_private% "readNumeral") 0 10 (numSeenOf x) = (int_private% "Numeral.value") n ∧ ((numSeenOf x).length == (numTextOf x).length) = true := by
      rcases read0 x hs with ⟨m, h1, h2, h3⟩ | ⟨h1, _⟩
      · rw [hn] at h1
        injection h1 with h1
        subst h1
        exact ⟨h3, h2⟩
      · rw [hn] at h1
        cases h1
    have hk := Hid.mk (And.intro hs hr)
    clear hs hr hl hn
    repeat (any_goals (first
      | assumption
      | ((with_reducible show wpAny _ _ ((int_private% "intFromText") _ _ _) _ _ _); refine wp_text hk.out.1 hk.out.2.1 hk.out.2.2 ?_)
      | wp_step))
    all_goals first | exact ⟨_, rfl, h⟩ | skip

theorem val_eq (l : List Nat) : digitsVal l = valOf l := by
  unfold digitsVal valOf
  have : ∀ (l : List Nat) (a : Nat), l.foldl (fun acc c => acc * 10 + (c - 48)) a = l.foldl (fun v c => 10 * v + (c - 48)) a := by
    intro l
    induction l with
    | nil => intro a; rfl
    | cons x l ih => intro a; rw [List.foldl_cons, List.foldl_cons, ih, Nat.mul_comm]
  exact this l 0
theorem m_int_dig {c : Cx} {vs : Vs} {nw : Nw} {Q : Value → Vs → Nw → Prop} {a : List Nat} {t u : Tok} (hd : ∀ x ∈ a, isDig x = true) (hne : a ≠ []) (hl : a.length ≤ 640) (h : ∀ t', Q (.int (valOf a) t') vs nw) :
    Do c (call (.type "int") [.str (S a) t, .int 10 u]) Q vs nw := Do.mk fun pin s St => by
  have hn : PySem.intText? (S a) = some ((digitsVal a : Nat) : Int) := intText_digits (x := S a) (fun c hc => dig_bounds (hd c hc)) hne (by rw [S_length]; omega)
  rw [val_eq] at hn
  exact callType_new F.called_int F.newNe_int (typeCall_int_2 _ _) (newCall_int_2 _ _) (fun obj => F.args_object_init_3 obj _ _) F.entry_int_new (gives_int2 (by rw [S_length]; exact hl) hn).meets
    (show (Made.int _).post _ s from ⟨rfl, fun ht => ⟨_, _, St.toks ht, h _⟩⟩)
end Mine
end

section
open PySem PySem.W PySem.Calls PyProof.Rows
set_option maxRecDepth 100000
set_option linter.unusedVariables false
namespace Mine
open PySem.NumText PySem.W.KIN

section
variable {w : World} {A : Around} {s : Shared} {R : Result → Shared → Prop}
theorem codeX_call_builtin {id : String} {args : Args} {b : Builtin} (hq : plainId id = true) (hb : entryFor table id = some b) (hc : checkBuiltinCall id args = pure ())
    (h : wpX (MM w) A.in1 (b args) (fun fin s' => match fin with | .done f => R (.ok f) s' | .again c' => c'.quiet = true ∧ codeX (MM w) A c' R s') (fun e s' => R (.error e) s') s) : codeX (MM w) A (.call (.builtin id) args) R s := by
  refine codeX_of_tree ?_
  show wpX _ A.in1 (do checkBuiltinCall id args; again (.builtin id args)) _ _ s
  rw [hc]
  refine wpX_bind (wpX_pure (wpX_pure (And.intro (plainId_quiet hq args) (codeX_of_tree ?_))))
  rw [Around.under_plainId hq args]
  show wpX _ _ (match entryFor table id with | some b => b args | none => unsupported ((withoutEnding? id "#data").getD id)) _ _ s
  rw [hb]; exact h
theorem codeX_builtin {id : String} {args : Args} {b : Builtin} (hb : entryFor table id = some b)
    (h : wpX (MM w) (A.under (.builtin id args)) (b args) (fun fin s' => match fin with | .done f => R (.ok f) s' | .again c' => c'.quiet = true ∧ codeX (MM w) A c' R s') (fun e s' => R (.error e) s') s) : codeX (MM w) A (.builtin id args) R s := by
  refine codeX_of_tree ?_
  show wpX _ _ (match entryFor table id with | some b => b args | none => unsupported ((withoutEnding? id "#data").getD id)) _ _ s
  rw [hb]; exact h

/-- under the claim's caller no refusal is marked -/
theorem wpX_mark {M : Model} {own : List String} {e : Value} {Q : Unit → Shared → Prop} {E : Value → Shared → Prop} (h : Q () s) : wpX M A (markTheRefusal own e) Q E s := fun Γ p hΓ hc => by
  unfold markTheRefusal
  have key : pythonCodeMadeTheCall own (((Γ.code, p) :: Γ.below).map (·.1)) = false := by
    have this : (((Γ.code, p) :: Γ.below).map (·.1)).any Code.isCaller = true := by
      rw [List.any_map]
      unfold Cal at hc
      exact hc
    show (((!((((Γ.code, p) :: Γ.below).map (·.1)).any Code.isCaller)) && _) && _) = false
    rw [this]; rfl
  show Sem.wp M Γ (stack >>= _) _ _ p s
  rw [Sem.wp_bind']
  unfold stack
  rw [Sem.wp_stack]
  show Sem.wp M Γ (if pythonCodeMadeTheCall own (((Γ.code, p) :: Γ.below).map (·.1)) = true then _ else _) _ _ p s
  rw [key, if_neg (by decide)]
  exact h
end

theorem int_call_X {w : World} {A : Around} {s : Shared} {Q : Value → Shared → Prop} {E : Value → Shared → Prop} {a b : Value}
    (h : wpX (MM w) A.in1.in1 (Builtin.«int.__new__» ⟨[.type "int", a, b], []⟩) (fun _ _ => False) E s) : wpX (MM w) A (call (.type "int") [a, b]) Q E s := by
  obtain ⟨c, tl, hmro⟩ := F.called_int.mro
  have hmade := F.called_int.made
  refine wpX_runValue (codeX_of_tree ?_)
  show wpX _ _ (callAny (.type "int") _) _ _ _
  refine wpX_pure ⟨Code.quiet_builtin _ (by decide +kernel), codeX_builtin F.entry_type_call ?_⟩
  rw [Around.under_plain (weight_type_call_type "int" [a, b] []) (units_type_call_type "int" [a, b] [])]
  have h1 := F.called_int.notType
  have h2 := F.called_int.canCreate
  unfold Builtin.«type.__call__»
  dsimp only
  rw [if_neg (by rw [h1]; decide), typeCall_int_2, hmro, hmade, if_neg (by rw [h2]; decide)]
  refine wpX_bind (wpX_pure ?_)
  refine wpX_bind (wpX_pure ?_)
  rw [if_neg (by simp)]
  refine wpX_bind (wpX_pure ?_)
  dsimp only
  refine wpX_bind (wpX_pure ?_)
  exact wpX_bind (wpX_holding (wpX_runValue (codeX_call_builtin F.called_int.plain F.entry_int_new (newCall_int_2 a b) (wpX_mono h (fun _ _ x => x.elim) fun _ _ x => x))))

end Mine
end

section
open PySem PySem.W PySem.Calls PyProof.Rows
set_option maxRecDepth 100000
set_option linter.unusedVariables false
namespace Mine
open PySem.NumText PySem.W.KIN

noncomputable abbrev excOf (t : Addr) : Obj := { cls := .type "ValueError", data := .fields #[.ref t, .none, .none, .none, .bool false, .none] }
theorem int_refusal {w : World} {A : Around} {s : Shared} {E : Value → Shared → Prop} {x : Str} {t : Tok} (hc8 : ∀ c ∈ x.cps.toList, c < 16 ^ 8) (hl : x.length ≤ 640) (hh : A.handled = none)
    (hE : ∀ m tk, E (.ref (s.heap.objs.size + 1)) { s with heap := (s.heap.push (tupOf [m])).push (excOf s.heap.objs.size), toks := tk }) : wpX (MM w) A (do
      rule "int.__new__.invalid-literal"
      let b ← (int_private% "bytesOf?") (.str x t)
      match b with
        | some b => do
          let v ← mkBytes (b.extract 0 200)
          let shown ← pyRepr v
          let m ← mkStr (Str.ofString (toString "invalid literal for int() with base " ++ toString 10 ++ toString ": ") ++ { cps := shown.cps.extract 0 200 })
          let refusal ← newExc (Value.type "ValueError") [m]
          markTheRefusal ["int.__new__"] refusal
          raiseNew refusal
        | none => do
          let shown ← pyRepr (Value.str x t)
          let m ← mkStr (Str.ofString (toString "invalid literal for int() with base " ++ toString 10 ++ toString ": ") ++ { cps := shown.cps.extract 0 200 })
          let refusal ← newExc (Value.type "ValueError") [m]
          markTheRefusal ["int.__new__"] refusal
          raiseNew refusal : Sem Value) (fun _ _ => False) E s := by
  refine wpX_bind (wpX_of (wpAny_rule ?_))
  refine wpX_bind (wpX_of (wpAny_of_eq (show (int_private% "bytesOf?") (.str x t) = pure none from rfl) ?_))
  dsimp only
  refine wpX_bind (wpX_of (wpAny_pyRepr_str ?_ ?_))
  · refine wpX_bind (wpX_of (wpAny_mkStr ?_ ?_))
    · refine wpX_bind (wpX_of ?_)
      simp only [newExc, newTuple]
      refine wpAny_bind (wpAny_newObj_type ?_ (by size_fits))
      refine wpAny_bind (m := firstArgMember _ _) (wpAny_of_eq (a := Value.none) (by first | rfl | (simp only [firstArgMember]; rfl)) ?_)
      refine wpAny_newObj_type ?_ (by size_fits)
      refine wpX_bind (wpX_mark ?_)
      refine wpX_of ?_
      simp only [raiseNew]
      refine wpAny_bind (wpAny_handled ?_)
      rw [hh]
      refine wpAny_bind (wpAny_pure (wpAny_throw ?_))
      have e : (s.heap.push (tupOf [Value.str (Str.ofString (toString "invalid literal for int() with base " ++ toString 10 ++ toString ": ") ++ { cps := (reprText x).cps.extract 0 200 }) (s.toks + 1)])).objs.size = s.heap.objs.size + 1 := Heap.size_push ..
      have := hE (Value.str (Str.ofString (toString "invalid literal for int() with base " ++ toString 10 ++ toString ": ") ++ { cps := (reprText x).cps.extract 0 200 }) (s.toks + 1)) (s.toks + 1 + 1)
      rw [← e] at this
      exact this
    · have h1 : ∀ a b : Str, (a ++ b).length = a.length + b.length := fun a b => by show (a.cps ++ b.cps).size = _; rw [Array.size_append]; rfl
      have h2 : (Str.ofString (toString "invalid literal for int() with base " ++ toString 10 ++ toString ": ")).length ≤ 100 := by decide +kernel
      have h3 : ({ cps := (reprText x).cps.extract 0 200 } : Str).length ≤ 200 := by show ((reprText x).cps.extract 0 200).size ≤ 200; rw [Array.size_extract]; omega
      rw [h1, szl]; omega
  · have := StrLaws.reprText_len x hc8
    rw [szl]; omega

theorem int_text_bad {w : World} {A : Around} {s : Shared} {E : Value → Shared → Prop} {x : Str} {t : Tok} (hn : PySem.intText? x = none) (hc8 : ∀ c ∈ x.cps.toList, c < 16 ^ 8) (hl : x.length ≤ 640) (hh : A.handled = none)
    (hE : ∀ m tk, E (.ref (s.heap.objs.size + 1)) { s with heap := (s.heap.push (tupOf [m])).push (excOf s.heap.objs.size), toks := tk }) : wpX (MM w) A ((int_private% "intFromText") (.str x t) (numTextOf x) 10) (fun _ _ => False) E s := by
  have hs : (numSeenOf x).length ≤ 640 := Nat.le_trans (seen_length x) hl
  show wpX (MM w) A (if (numSeenOf x).length ≤ 640 then ((pure 0 : Sem Nat) >>= _) else _) _ _ s
  rw [if_pos hs]
  refine wpX_bind (wpX_pure ?_)
  dsimp only
  rw [show List.takeWhile (fun x => x != 0) (numTextOf x) = numSeenOf x from rfl]
  rcases read0 x hs with ⟨m, h1, _, _⟩ | ⟨_, h | ⟨i, h, hne⟩⟩
  · rw [hn] at h1; cases h1
  · rw [h]
    dsimp only
    refine wpX_bind (wpX_of (wpAny_of_eq (show (int_private% "bytesOf?") (.str x t) = pure none from rfl) ?_))
    rw [if_neg (by simp)]
    exact int_refusal hc8 hl hh hE
  · rw [h]
    dsimp only
    rw [if_neg hne]
    exact int_refusal hc8 hl hh hE

theorem int_new_bad {w : World} {A : Around} {s : Shared} {E : Value → Shared → Prop} {x : Str} {t u : Tok} (hn : PySem.intText? x = none) (hc8 : ∀ c ∈ x.cps.toList, c < 16 ^ 8) (hl : x.length ≤ 640) (hh : A.handled = none)
    (hE : ∀ m tk, E (.ref (s.heap.objs.size + 1)) { s with heap := (s.heap.push (tupOf [m])).push (excOf s.heap.objs.size), toks := tk }) : wpX (MM w) A (Builtin.«int.__new__» ⟨[.type "int", .str x t, .int 10 u], []⟩) (fun _ _ => False) E s := by
  unfold Builtin.«int.__new__»
  dsimp only
  refine wpX_bind (wpX_of (wpAny_of_eq (show isType (.type "int") = pure true from rfl) ?_))
  rw [if_neg (by decide), F.conv_sub_int]
  refine wpX_bind (wpX_pure ?_)
  rw [if_neg (by decide), F.madeHere_int]
  refine wpX_bind (wpX_pure ?_)
  rw [if_neg (by simp), if_neg (by simp)]
  rw [List.forIn_nil]
  refine wpX_bind (wpX_pure ?_)
  show wpX _ _ (Builtin.Int.intIndex "int.__new__" (.int 10 u) >>= _) _ _ s
  refine wpX_bind (wpX_of (wpAny_of_eq (show Builtin.Int.intIndex "int.__new__" (.int 10 u) = pure 10 from rfl) ?_))
  rw [if_neg (by decide)]
  refine wpX_bind (wpX_of (wpAny_of_eq (show (int_private% "numeralText?") (.str x t) = pure (some (numTextOf x)) from rfl) ?_))
  dsimp only
  exact wpX_bind (wpX_mono (int_text_bad hn hc8 hl hh hE) (fun _ _ z => z.elim) fun _ _ z => z)
end Mine
end

section
open PySem PySem.W PySem.Calls PyProof.Rows
set_option maxRecDepth 100000
set_option linter.unusedVariables false
namespace Mine

noncomputable def stageT : List (List Nat × Int × Tok) := [([100, 101, 118], 10, 339), ([97, 108, 112, 104, 97], 20, 341), ([97], 20, 343), ([98, 101, 116, 97], 30, 345), ([98], 30, 347), ([99], 40, 349), ([82, 67], 50, 351), ([114, 99], 50, 353), ([112, 108], 200, 355), ([112], 200, 357)]
noncomputable def stageOf (a : List Nat) : Int := ((stageT.find? fun p => p.1 == a).map (·.2.1)).getD 0
noncomputable def stageKV : List (Str × Value) := stageT.map fun p => (S p.1, .int p.2.1 p.2.2)

noncomputable def stObj (w : World) : Obj := ((KK w).lookup 44).getD default
noncomputable def stEs (w : World) : Array DictEntry := match (stObj w).data with | .dict es _ => es | _ => #[]
theorem st_at (w : World) : (KK w).lookup 44 = some (stObj w) := by kernel_rfl
theorem st_data (w : World) : ∃ n, (stObj w).data = .dict (stEs w) n := ⟨10, by kernel_rfl⟩
theorem st_es (w : World) : (stEs w).toList = stageT.zipIdx.map fun p => ⟨hashStr w (S p.1.1), .str (S p.1.1) (338 + 2 * p.2), .int p.1.2.1 p.1.2.2⟩ := by kernel_rfl
theorem st_dict (w : World) : (stObj w).IsDictOf (strKind PR w) stageKV := by
  obtain ⟨n, hn⟩ := st_data w
  refine ⟨stEs w, n, ⟨by kernel_rfl, by kernel_rfl, by kernel_rfl⟩, hn, fun e he => ?_, ?_, by decide +kernel⟩
  · have he' : e ∈ (stEs w).toList := by simpa using he
    rw [st_es, List.mem_map] at he'
    obtain ⟨p, _, rfl⟩ := he'
    exact ⟨S p.1.1, strKind_is _ _ _ _, rfl⟩
  · rw [st_es]
    have : ∀ (l : List (List Nat × Int × Tok)) (k : Nat), Pairs (strKind PR w) ((l.zipIdx k).map fun p => ⟨hashStr w (S p.1.1), .str (S p.1.1) (338 + 2 * p.2), .int p.1.2.1 p.1.2.2⟩) (l.map fun p => (S p.1, .int p.2.1 p.2.2)) := by
      intro l
      induction l with
      | nil => intro k; exact .nil
      | cons p l ih => intro k; exact .cons (strKind_is _ _ _ _) rfl (ih (k + 1))
    exact this _ 0

theorem st_value (a : List Nat) (u : Tok) : ∃ t, (valueAt stageKV (S a)).getD (.int 0 u) = .int (stageOf a) t := by
  unfold stageOf stageKV
  have : ∀ l : List (List Nat × Int × Tok), ∃ t, (valueAt (l.map fun p => (S p.1, Value.int p.2.1 p.2.2)) (S a)).getD (.int 0 u) = .int (((l.find? fun p => p.1 == a).map (·.2.1)).getD 0) t := by
    intro l
    induction l with
    | nil => exact ⟨u, rfl⟩
    | cons p l ih =>
      obtain ⟨t, ih⟩ := ih
      by_cases h : p.1 = a
      · refine ⟨p.2.2, ?_⟩
        subst h
        simp [valueAt]
      · refine ⟨t, ?_⟩
        have h1 : (p.1 == a) = false := by simpa using h
        have h2 : ¬ S p.1 = S a := fun e => h (S_inj.mp e)
        have h3 : ¬ S a = S p.1 := fun e => h (S_inj.mp e).symm
        rw [List.find?_cons, h1, ← ih]
        simp [valueAt, h2, h3]
  exact this _

theorem call_get44 {w : World} {A : Around} {E : Value → Shared → Prop} {s : Shared} {Q : Value → Shared → Prop} {a : List Nat} {t u : Tok} (G : Gr w s.heap) (h : ∀ t', Q (.int (stageOf a) t') { s with toks := s.toks + 1 }) :
    wpAny (MM w) A (call (.builtin "dict.get") [.ref 44, .str (S a) t, .int 0 u]) Q E s := by
  have hd : s.heap.DictOf (strKind PR w) 44 stageKV := Heap.dictOf_iff.mpr ⟨_, G.K _ _ (st_at w), st_dict w⟩
  obtain ⟨t', e⟩ := st_value a u
  refine call_meetsIn PySem.F.slot_dict_get hd.typeIs PySem.F.entry_dict_get (PySem.F.args_dict_get_3 _ _ _) (meets_dict_get_default (strKind PR w) 44 (strKind_is PR w (S a) t) (by decide) (.int 0 u)) ⟨_, hd.mapOf, ?_⟩
  rw [e]
  exact h t'
end Mine
end

section
open PySem PySem.W PySem.Calls PyProof.Rows PySem.SeqAt
set_option maxRecDepth 100000
set_option linter.unusedVariables false
namespace Mine

/-! the X logic, with one object outside (the caller's names) that may change its slots -/
noncomputable def withL (base : Pin) (L : Addr) (o : Obj) : Pin := fun b x => base b x ∨ (b = L ∧ x = o)

structure DoZ {α : Type} (c : Cx) (L : Addr) (t : Sem α) (Q : α → Vs → Nw → Prop) (vs : Vs) (nw : Nw) : Prop where
  run : ∀ (base : Pin) (o : Obj) (s : Shared), (∀ x, ¬ base L x) → (∀ p ∈ c.ro, base p.1 p.2) → (∀ fs, o.data ≠ .fields fs) → St c (withL base L o) vs nw s →
    wpX (MM c.w) c.A t (fun a s' => 1 ≤ s'.toks → ∃ vs' nw' sl, St c (withL base L { o with slots := sl }) vs' nw' s' ∧ Q a vs' nw') (fun _ _ => False) s

section
variable {α β : Type} {c : Cx} {L : Addr} {vs : Vs} {nw : Nw}
theorem DoZ.of {t : Sem α} {Q : α → Vs → Nw → Prop} (h : Do c t Q vs nw) : DoZ c L t Q vs nw := DoZ.mk fun base o s _ _ _ S =>
  wpX_of (wpAny_mono (h.run _ s S) (fun a s' h' ht => by obtain ⟨v, n, S', q⟩ := h' ht; exact ⟨v, n, o.slots, S', q⟩) fun _ _ x => x)
theorem DoZ.use {t : Sem α} {Q : α → Vs → Nw → Prop} (h : DoZ c L t Q vs nw) {base : Pin} {o : Obj} {s : Shared} (h1 : ∀ x, ¬ base L x) (hro : ∀ p ∈ c.ro, base p.1 p.2) (h2 : ∀ fs, o.data ≠ .fields fs) (S : St c (withL base L o) vs nw s) :
    wpX (MM c.w) c.A t (fun a s' => ∃ vs' nw' sl, St c (withL base L { o with slots := sl }) vs' nw' s' ∧ Q a vs' nw') (fun _ _ => False) s :=
  wpX_with_toks S.tk (wpX_mono (h.run base o s h1 hro h2 S) (fun _ _ x => x) fun _ _ x => x.elim)
theorem DoZ.mono {t : Sem α} {Q Q' : α → Vs → Nw → Prop} (h : DoZ c L t Q vs nw) (hq : ∀ a vs nw, Q a vs nw → Q' a vs nw) : DoZ c L t Q' vs nw :=
  DoZ.mk fun _ _ _ h1 hro h2 S => wpX_mono (h.use h1 hro h2 S) (fun _ _ ⟨v, n, sl, a, b⟩ _ => ⟨v, n, sl, a, hq _ _ _ b⟩) fun _ _ x => x
theorem DoZ.drop {t : Sem α} {Q : α → Vs → Nw → Prop} {nw' : Nw} (h : DoZ c L t Q vs nw') (hs : nw'.Sublist nw) : DoZ c L t Q vs nw := DoZ.mk fun base o s h1 hro h2 S => h.run base o s h1 hro h2 (S.drop hs)

noncomputable def thenZ (c : Cx) (L : Addr) (rest : List Stmt) (Q : Flow → Vs → Nw → Prop) : Flow → Vs → Nw → Prop
  | .next => DoZ c L (execs rest c.env) Q
  | f => Q f
theorem doz_cons {st : Stmt} {rest : List Stmt} {Q : Flow → Vs → Nw → Prop} (h : DoZ c L (exec st c.env) (thenZ c L rest Q) vs nw) : DoZ c L (execs (st :: rest) c.env) Q vs nw := DoZ.mk fun base o s h1 hro h2 S Γ p hΓ hk => by
  rw [execs_cons, Sem.wp_bind']
  refine Sem.wp_mono (MM c.w) Γ _ (fun f p' s' h' => ?_) (fun _ _ _ h' => h') _ _ (h.use h1 hro h2 S Γ p hΓ hk)
  obtain ⟨vs', nw', sl, S', h'⟩ := h'
  cases f with
  | next => exact h'.run base { o with slots := sl } s' h1 hro h2 S' Γ p' hΓ hk
  | brk => exact fun _ => ⟨vs', nw', sl, S', h'⟩
  | cont => exact fun _ => ⟨vs', nw', sl, S', h'⟩
  | ret v => exact fun _ => ⟨vs', nw', sl, S', h'⟩
theorem doz_If {test : Expr} {body orelse : List Stmt} {pos : Pos} {Q : Flow → Vs → Nw → Prop}
    (h : DoZ c L (isTrue test c.env (eval test c.env)) (fun b vs nw => (b = true → DoZ c L (execs body c.env) Q vs nw) ∧ (b = false → DoZ c L (execs orelse c.env) Q vs nw)) vs nw) :
    DoZ c L (exec (.If test body orelse pos) c.env) Q vs nw := DoZ.mk fun base o s h1 hro h2 S Γ p hΓ hc => by
  simp only [exec_If, Sem.wp_bind', Sem.wp_cmd_standAt]
  refine Sem.wp_mono (MM c.w) Γ _ (fun b p₂ s₂ h₂ => ?_) (fun _ _ _ h' => h') _ _ (h.use h1 hro h2 S Γ _ hΓ hc)
  obtain ⟨vs', nw', sl, S', k1, k2⟩ := h₂
  cases b with
  | true => exact (k1 rfl).run base { o with slots := sl } s₂ h1 hro h2 S' Γ p₂ hΓ hc
  | false => exact (k2 rfl).run base { o with slots := sl } s₂ h1 hro h2 S' Γ p₂ hΓ hc

structure ForZ (c : Cx) (L : Addr) (target : Expr) (body : List Stmt) (xv : Value) (Q : Flow → Vs → Nw → Prop) (vs : Vs) (nw : Nw) : Prop where
  run : ∀ (base : Pin) (o : Obj) s, (∀ x, ¬ base L x) → (∀ p ∈ c.ro, base p.1 p.2) → (∀ fs, o.data ≠ .fields fs) → St c (withL base L o) vs nw s →
    wpAny (MM c.w) c.A (pyIter xv) (fun it s₂ => codeX (MM c.w) c.A (.forLoop target it body [] c.env) (fun r s' => ∃ f vs' nw' sl, r = .ok f ∧ St c (withL base L { o with slots := sl }) vs' nw' s' ∧ Q f vs' nw') s₂) (fun _ _ => False) s

theorem doz_For {target iter : Expr} {body : List Stmt} {pos : Pos} {Q : Flow → Vs → Nw → Prop} (h : Do c (eval iter c.env) (fun xv => ForZ c L target body xv Q) vs nw)
    (hs : ∀ x, foldedSetIterable iter c.env x = pure x := by intro _; rfl) : DoZ c L (exec (.For target iter body [] pos) c.env) Q vs nw := DoZ.mk fun base o s h1 hro h2 S => by
  rw [exec_For]
  refine wpX_bind (wpX_standAt ?_)
  refine wpX_bind (wpX_of (wpAny_mono (h.use S) (fun x s₁ hx => ?_) fun _ _ x => x))
  obtain ⟨_, _, S₁, h₁⟩ := hx
  rw [hs x]
  refine wpX_bind (wpX_pure ?_)
  refine wpX_bind (wpX_standAt ?_)
  refine wpX_bind (wpX_holding (wpX_of (wpAny_mono (h₁.run base o s₁ h1 hro h2 S₁) (fun it s₂ h₂ => ?_) fun _ _ x => x)))
  refine wpX_runOwn (codeX_mono h₂ fun r s' hr => ?_)
  obtain ⟨f, vs', nw', sl, e, S', q⟩ := hr
  subst e
  exact fun _ => ⟨vs', nw', sl, S', q⟩

theorem for_walkZ {target : Expr} {body : List Stmt} {xv : Value} {Q : Flow → Vs → Nw → Prop} {n : Nat} {P : Nat → Value → Prop} (ext : Nw) (I : Nat → Vs → Nw → Prop)
    (hit : ∀ pin s, St c pin vs nw s → wpAny (MM c.w) c.A (pyIter xv) (fun it s₂ => ∃ a fp wr St₀ h' tk, it = .ref a ∧ s₂ = { s with heap := h', toks := tk } ∧ Walks PR c.w c.A a fp wr n P St₀ ∧ St₀ 0 h' ∧
      (∀ b o, s.heap.get? b = some o → h'.get? b = some o) ∧ (∀ b ∈ wr, s.heap.objs.size ≤ b) ∧ (∀ b ∈ fp, b ∈ wr ∨ ∃ o, (b, o) ∈ ext) ∧ (∀ k h, St₀ k h → ∀ b ∈ wr, ∃ o, h.get? b = some o) ∧ ∀ (k : Nat) (s' : Shared) (v : Value) (Q' : Unit → Shared → Prop) (E' : Value → Shared → Prop), St₀ k s'.heap → P (k - 1) v → Q' () s' → wpAny (MM c.w) c.A (letOwnedTupleGo target (.ref a) v) Q' E' s') (fun _ _ => False) s)
    (h0 : I 0 vs nw) (hext : ∀ k vs nw, I k vs nw → ∀ p ∈ ext, Has c nw p.1 p.2)
    (turn : ∀ k v vs nw, k < n → P k v → I k vs nw → Do c (assign target c.env v) (fun _ => DoZ c L (execs body c.env) (bodyQ I k Q)) vs nw)
    (fin : ∀ vs nw, I n vs nw → Q .next vs nw) : ForZ c L target body xv Q vs nw := ForZ.mk fun base o s h1 hro h2 S => by
  refine wpAny_with_toks S.tk (wpAny_mono (hit _ s S) (fun it s₂ hh ht => ?_) fun _ _ x => x.elim)
  obtain ⟨a, fp, wr, St₀, h', tk, rfl, rfl, W, st0, hk, hwr, hfp, hex, hgo⟩ := hh
  have S₀ : St c (withL base L o) vs nw { s with heap := h', toks := tk } := S.ext hk ht
  have hLw : L ∉ wr := fun hm => Nat.lt_irrefl _ (Nat.lt_of_lt_of_le (Heap.lt_size (S.pinned L o (.inr ⟨rfl, rfl⟩))) (hwr L hm))
  refine codeX_forLoop (fun m s' => ∃ k vs nw sl, m = n + 1 - k ∧ k ≤ n ∧ St c (withL base L { o with slots := sl }) vs nw s' ∧ I k vs nw ∧ St₀ k s'.heap ∧ ∀ b ∈ wr, c.env.locals < b ∧ (∀ o, ¬ base b o) ∧ ∀ p ∈ nw, p.1 ≠ b) ?_ (n + 1)
    ⟨0, vs, nw, o.slots, rfl, Nat.zero_le _, S₀, h0, st0, fun b hb => ⟨(notMem_of_ge S (hwr b hb)).1, fun o' q => (notMem_of_ge S (hwr b hb)).2.1 o' (.inl q), (notMem_of_ge S (hwr b hb)).2.2⟩⟩
  rintro m s' ⟨k, vs₁, nw₁, sl₁, rfl, hkn, S₁, I₁, st₁, hw₁⟩
  have hw₁' : ∀ b ∈ wr, c.env.locals < b ∧ (∀ x, ¬ withL base L { o with slots := sl₁ } b x) ∧ ∀ p ∈ nw₁, p.1 ≠ b := fun b hb => ⟨(hw₁ b hb).1, fun x q => q.elim ((hw₁ b hb).2.1 x) fun q => hLw (q.1 ▸ hb), (hw₁ b hb).2.2⟩
  by_cases hlt : k < n
  · refine wpX_of (wpAny_with_toks S₁.tk (W.item k s' _ _ hlt st₁ fun v h₂ tk₂ hv st₂ hk₂ ht₂ => ?_))
    have S₂ : St c (withL base L { o with slots := sl₁ }) vs₁ nw₁ { s' with heap := h₂, toks := tk₂ } := S₁.extBut hk₂ hw₁' ht₂
    refine wpX_of (hgo (k + 1) _ v _ _ st₂ hv ?_)
    let base' : Pin := fun b x => base b x ∨ (b ∈ wr ∧ h₂.get? b = some x ∧ b ≠ 53)
    have hb1 : ∀ x, ¬ base' L x := fun x q => q.elim (h1 x) fun q => hLw q.1
    have S₂' : St c (withL base' L { o with slots := sl₁ }) vs₁ nw₁ { s' with heap := h₂, toks := tk₂ } := by
      refine S₂.pinMore (fun b x q => ?_) fun b x q => q.elim (fun q => .inl (.inl q)) .inr
      rcases q with (q | ⟨q1, q2, q3⟩) | q
      · exact .inl (.inl q)
      · exact .inr ⟨q2, Nat.ne_of_gt (hw₁ b q1).1, q3, (hw₁ b q1).2.2⟩
      · exact .inl (.inr q)
    refine wpX_of (wpAny_mono ((turn k v vs₁ nw₁ hlt hv I₁).use S₂') (fun _ s₃ h₃ => ?_) fun _ _ x => x.elim)
    obtain ⟨vs', nw', S₃, h₃⟩ := h₃
    refine wpX_mono (h₃.use (base := base') (o := { o with slots := sl₁ }) hb1 (fun p hp => .inl (hro p hp)) h2 S₃) (fun f s₄ h₄ => ?_) fun _ _ x => x.elim
    obtain ⟨vs₄, nw₄, sl₄, S₄, h₄⟩ := h₄
    have S₅ : St c (withL base L { o with slots := sl₄ }) vs₄ nw₄ s₄ := S₄.pinLess (fun b x q => q.elim (fun q => .inl (.inl q)) .inr) fun p hp => .inl (hro p hp)
    have go : I (k + 1) vs₄ nw₄ → ∃ m, m < n + 1 - k ∧ ∃ k' vs nw sl, m = n + 1 - k' ∧ k' ≤ n ∧ St c (withL base L { o with slots := sl }) vs nw s₄ ∧ I k' vs nw ∧ St₀ k' s₄.heap ∧ ∀ b ∈ wr, c.env.locals < b ∧ (∀ o, ¬ base b o) ∧ ∀ p ∈ nw, p.1 ≠ b := by
      intro I₄
      refine ⟨n + 1 - (k + 1), by omega, k + 1, vs₄, nw₄, sl₄, rfl, hlt, S₅, I₄, W.frame _ _ _ st₂ fun b hb x e => ?_, fun b hb => ⟨(hw₁ b hb).1, (hw₁ b hb).2.1, fun p hp e => ?_⟩⟩
      · rcases hfp b hb with hm | ⟨o', ho'⟩
        · exact S₄.pinned b x (.inl (.inr ⟨hm, e, hi_ne (Nat.le_trans c.low (Nat.le_of_lt (hw₁ b hm).1))⟩))
        · have g1 := (S₂.get (hext k vs₁ nw₁ I₁ _ ho')).1
          have g2 := (S₅.get (hext (k + 1) vs₄ nw₄ I₄ _ ho')).1
          have : x = o' := Option.some.inj (e.symm.trans g1)
          rw [this]; exact g2
      · obtain ⟨x, hq⟩ := hex _ _ st₂ b hb
        exact (S₄.nwA p hp).2 x (e ▸ .inl (.inr ⟨hb, hq, hi_ne (Nat.le_trans c.low (Nat.le_of_lt (hw₁ b hb).1))⟩))
    cases f with
    | next => exact go h₄
    | cont => exact go h₄
    | brk => exact ⟨_, vs₄, nw₄, sl₄, rfl, S₅, h₄⟩
    | ret v => exact ⟨_, vs₄, nw₄, sl₄, rfl, S₅, h₄⟩
  · have hkn' : k = n := by omega
    subst hkn'
    exact wpX_of (wpAny_with_toks S₁.tk (W.done s' _ _ st₁ fun h₂ tk₂ hk₂ ht₂ => ⟨_, vs₁, nw₁, sl₁, rfl, S₁.extBut hk₂ hw₁' ht₂, fin vs₁ nw₁ I₁⟩))

theorem forZ_list {l : Addr} {xs : List Value} {n : Nat} {i : Nat} {x : Str} {px : Pos} {body : List Stmt} {Q : Flow → Vs → Nw → Prop} (hx : c.ks[i]? = some x) (I : Nat → Vs → Nw → Prop) (h0 : I 0 vs nw) (hh0 : Has c nw l (lstOf xs n)) (hh : ∀ k vs nw, I k vs nw → Has c nw l (lstOf xs n))
    (turn : ∀ k v vs nw, xs[k]? = some v → I k vs nw → DoZ c L (execs body c.env) (bodyQ I k Q) (vs.set i (some v)) nw)
    (fin : ∀ vs nw, I xs.length vs nw → Q .next vs nw) : ForZ c L (.Name x px) body (.ref l) Q vs nw := by
  refine for_walkZ (n := xs.toArray.size) (P := fun i v => xs.toArray[i]? = some v) [(l, lstOf xs n)] I (fun pin s St => ?_) h0 (fun k vs nw hI p hp => ?_) (fun k v vs nw hk hv hI => ?_) (fun vs nw hI => fin vs nw (by simpa using hI))
  · have hl := isL St hh0
    have hlt : l < s.heap.objs.size := Heap.lt_size (St.get hh0).1
    refine wpAny_pyIter_list hl ⟨_, [s.heap.objs.size, l], [s.heap.objs.size], _, _, _, rfl, rfl, Walks.list c.hh s.heap.objs.size l (Nat.ne_of_lt hlt) xs.toArray, ⟨⟨_, Heap.get?_push_size _ rfl, rfl, rfl⟩, hl.push _⟩, fun b o e => Heap.get?_push_of_some _ e, fun b hb => ?_, fun b hb => ?_, fun k h st b hb => ?_, fun k s' v Q' E' st hv hq => wpAny_pure hq⟩
    · rw [List.mem_singleton.mp hb]; exact Nat.le_refl _
    · rcases List.mem_cons.mp hb with rfl | hb
      · exact .inl (.head _)
      · rw [List.mem_singleton.mp hb]; exact .inr ⟨_, .head _⟩
    · rw [List.mem_singleton.mp hb]; obtain ⟨o, e, _⟩ := st.1; exact ⟨o, e⟩
  · rw [List.mem_singleton.mp hp]; exact hh k vs nw hI
  · exact do_assignName hx (turn k v vs nw (by simpa using hv) hI)
end
end Mine
end

section
open PySem PySem.W PySem.Calls PyProof.Rows PySem.SeqAt
set_option maxRecDepth 100000
set_option linter.unusedVariables false
namespace Mine

theorem ne_add {b n : Nat} (h : b < n) (k : Nat) : b ≠ n + k := by omega
theorem ne_of_lt_add {b n t k : Nat} (h : b < n) (h2 : n + k ≤ t) : b ≠ t := by omega
theorem lt_of_lt_add {b n t k : Nat} (h : b < n) (h2 : n + k ≤ t) : b < t := by omega
theorem ne_add1 {n t : Nat} (h2 : n + 2 ≤ t) : n + 1 ≠ t := by omega

section
variable {M : Model} {A : Around} {E : Value → Shared → Prop} {s : Shared}
theorem wp_note2 {env out : Env} {L Lc e : Addr} {oc oL oe : Obj} {vs : Array Value} {Q : Unit → Shared → Prop} (hfr : A.frames = some [env, out]) (hk : env.scope.kind ≠ .module) (hko : out.scope.kind ≠ .module)
    (hf : env.frame = some Lc) (hfo : out.frame = some L) (hLc : s.heap.get? Lc = some oc) (hcd : ∀ fs, oc.data ≠ .fields fs) (hL : s.heap.get? L = some oL) (hLd : ∀ fs, oL.data ≠ .fields fs)
    (he : s.heap.get? e = some oe) (hd : oe.data = .fields vs) (h1 : vs[1]? = some .none)
    (h : ∀ h' tb ts, (∀ b o, b ≠ Lc → b ≠ L → b ≠ e → s.heap.get? b = some o → h'.get? b = some o) → (∃ sl, h'.get? Lc = some { oc with slots := sl }) → (∃ sl, h'.get? L = some { oL with slots := sl }) →
      h'.get? e = some (oe.mapFields (·.setIfInBounds 1 (.ref tb))) → s.heap.objs.size ≤ tb → (∃ otb, h'.get? tb = some otb ∧ otb.data = .fields ts) → 3 < ts.size → Q () { s with heap := h' }) :
    wpAny M A (noteFrame (.ref e) env) Q E s := by
  have hsz : 1 < vs.size := (Array.getElem?_eq_some_iff.mp h1).1
  have hLce : Lc ≠ e := by rintro rfl; rw [hLc] at he; cases he; exact hcd _ hd
  have hLe : L ≠ e := by rintro rfl; rw [hL] at he; cases he; exact hLd _ hd
  have none0 : ∀ a, ({} : Heap).get? a = none := fun a => Heap.get?_none_of_le (Nat.zero_le _)
  have hl : s.heap.FunFrames {} [env, out] := ⟨hk, ⟨Lc, oc, hf, none0 _, hLc, hcd⟩, hko, ⟨L, oL, hfo, none0 _, hL, hLd⟩, trivial⟩
  unfold noteFrame
  simp only [hf]
  refine wpAny_bind (wpAny_field he hd h1 ?_)
  rw [if_neg (by decide)]
  refine wpAny_bind (wpAny_frameOf_fun hfr hl hf fun h₁ hs₁ => ?_)
  have hS : (([env, out] : List Env).filterMap (·.frame)) = [Lc, L] := by simp [hf, hfo]
  rw [hS] at hs₁
  refine wpAny_bind (wpAny_entryPlaceOf fun pl hpl => ?_)
  unfold EntryCells.newEntry newFields
  refine wpAny_bind (wpAny_newObj_type ?_ (hpl.sizeOk5 _ _ _ _ _))
  have he₁ : h₁.get? e = some oe := (hs₁.2.1 e (by simp [Ne.symm hLce, Ne.symm hLe])).trans he
  have he₂ := Heap.get?_push_of_some (h := h₁) { cls := .type "traceback", dict := none, data := .fields ([Value.none, .ref Lc, .none, rawInt Lc, .none] ++ (if pl.isEmpty then List.replicate 6 Value.none else pl)).toArray } he₁
  refine wpAny_setField he₂ hd hsz ?_
  have hTe : h₁.objs.size ≠ e := Nat.ne_of_gt (Heap.lt_size he₁)
  have hd₃ := Obj.data_mapFields hd (·.setIfInBounds 1 (Value.ref h₁.objs.size))
  obtain ⟨sl1, g1⟩ := hs₁.2.2 Lc oc hLc
  obtain ⟨sl2, g2⟩ := hs₁.2.2 L oL hL
  refine h _ h₁.objs.size ([Value.none, .ref Lc, .none, rawInt Lc, .none] ++ (if pl.isEmpty then List.replicate 6 Value.none else pl)).toArray (fun b o hb1 hb2 hbe hb => ?_) ⟨sl1, ?_⟩ ⟨sl2, ?_⟩ (Heap.get?_update_self _ he₂ (Obj.isFreed_of_fields hd₃)) (by rw [hs₁.1]; exact Nat.le_refl _) ⟨{ cls := .type "traceback", dict := none, data := .fields ([Value.none, .ref Lc, .none, rawInt Lc, .none] ++ (if pl.isEmpty then List.replicate 6 Value.none else pl)).toArray }, ?_, rfl⟩
    (by simp only [List.size_toArray, List.length_append, List.length_cons, List.length_nil] <;> omega)
  · rw [Heap.get?_update_other _ _ (Ne.symm hbe)]
    exact Heap.get?_push_of_some _ ((hs₁.2.1 b (by simp [hb1, hb2])).trans hb)
  · rw [Heap.get?_update_other _ _ (Ne.symm hLce)]
    exact Heap.get?_push_of_some _ g1
  · rw [Heap.get?_update_other _ _ (Ne.symm hLe)]
    exact Heap.get?_push_of_some _ g2
  · rw [Heap.get?_update_other _ _ (Ne.symm hTe)]
    exact Heap.get?_push_size h₁ rfl
end

section
variable {c : Cx} {L : Addr} {vs : Vs} {nw : Nw}

theorem St.slotsL {base : Pin} {o : Obj} {s : Shared} {h' : Heap} {tk : Nat} {sl : Array (Option Value)} (S : St c (withL base L o) vs nw s) (h1 : ∀ x, ¬ base L x) (hro : ∀ p ∈ c.ro, base p.1 p.2) (hL261 : 261 ≤ L)
    (hk : ∀ b x, b ≠ c.env.locals → b ≠ L → s.heap.get? b = some x → h'.get? b = some x) (hc : ∀ x, s.heap.get? c.env.locals = some x → ∃ sl, h'.get? c.env.locals = some { x with slots := sl })
    (hL : h'.get? L = some { o with slots := sl }) (ht : 1 ≤ tk) : St c (withL base L { o with slots := sl }) vs nw { s with heap := h', toks := tk } := by
  have hLo : withL base L o L o := .inr ⟨rfl, rfl⟩
  have hLc : L ≠ c.env.locals := fun e => S.pL o (e ▸ hLo)
  have hB : ∀ b x, base b x → s.heap.get? b = some x ∧ b ≠ c.env.locals ∧ b ≠ L := fun b x q => ⟨S.pinned b x (.inl q), fun e => S.pL x (e ▸ .inl q), fun e => h1 x (e ▸ q)⟩
  exact {
    gr := S.gr.ext fun b x hb e => hk b x (Nat.ne_of_lt (Nat.lt_of_lt_of_le hb c.low)) (Nat.ne_of_lt (Nat.lt_of_lt_of_le hb hL261)) e
    ns := by
      obtain ⟨x, es, ep, hx, hd, r⟩ := S.ns
      obtain ⟨sl', hs'⟩ := hc x hx
      exact ⟨_, es, ep, hs', hd, r⟩
    len := S.len
    pinned := fun b x q => by
      rcases q with q | ⟨rfl, rfl⟩
      · obtain ⟨a1, a2, a3⟩ := hB b x q
        exact hk b x a2 a3 a1
      · exact hL
    pL := fun x q => by
      rcases q with q | ⟨q, _⟩
      · exact S.pL x (.inl q)
      · exact hLc q.symm
    p53 := fun x q => by
      rcases q with q | ⟨q, _⟩
      · exact S.p53 x (.inl q)
      · exact hi_ne hL261 q.symm
    ro := fun p hp => .inl (hro p hp)
    own := fun p hp => hk _ _ (Nat.ne_of_gt (S.nwA p hp).1) (fun e => (S.nwA p hp).2 o (e ▸ hLo)) (S.own p hp)
    nwA := fun p hp => ⟨(S.nwA p hp).1, fun x q => by
      rcases q with q | ⟨q, _⟩
      · exact (S.nwA p hp).2 x (.inl q)
      · exact (S.nwA p hp).2 o (q ▸ hLo)⟩
    ord := S.ord
    gens := S.gens
    os := S.os
    tk := ht
    b53 := S.b53.step fun x e => hk _ x (Nat.ne_of_lt (Nat.lt_of_lt_of_le (by decide) c.low)) (Nat.ne_of_lt (Nat.lt_of_lt_of_le (by decide) hL261)) e }

theorem globNsA {pin : Pin} {s : Shared} {A : Around} (S : St c pin vs nw s) {x : Str} {v : Value} (g : GlobIs c.w x v) {Q : Value → Shared → Prop} {E : Value → Shared → Prop} (h : Q v s) : wpAny (MM c.w) A (loadGlobal c.env x) Q E s := by
  obtain ⟨mg, hn⟩ := S.gr.g
  rcases g with g | ⟨g1, g2, g3⟩
  · exact loadGlobal_global (by rw [c.hg]; exact hn) (mg_of S.gr.K hn g) h
  · obtain ⟨mb, hb, hv⟩ := S.gr.b
    exact loadGlobal_builtin (by rw [c.hg]; exact hn) (mg_none_of S.gr.K hn g1) (by rw [c.hb]; exact hb) ((hv x g3).trans g2) h

theorem subVE : isSubtype (.type "ValueError") (.type "BaseException") = pure true := by rw [isSubtype_type]; kernel_rfl
theorem subVT : isSubtype (.type ((Manifest.find? "ValueError").elim "type" fun x => x.metatype)) (.type "tuple") = pure false := by
  rw [show ((Manifest.find? "ValueError").elim "type" fun x => x.metatype) = "type" from by decide +kernel, isSubtype_type]; kernel_rfl
theorem subVV : isSubtype (.type "ValueError") (.type "ValueError") = pure true := by rw [isSubtype_type]; kernel_rfl

/-- the rule of the one try: a body that ends, or that raises a new ValueError -/
theorem doz_Try {out : Env} {i : Nat} {x : Str} {body : List Stmt} {b₀ : Stmt} {suite : List Stmt} {xp hp pos : Pos} {J : Vs → Nw → Prop} (hfr : c.A.frames = some [c.env, out]) (hko : out.scope.kind ≠ .module)
    (hf : c.env.frame = some c.env.locals) (hfo : out.frame = some L) (hL261 : 261 ≤ L) (hg : c.gs[i]? = some (x, .type "ValueError"))
    (hbody : Do c (execs body c.env) (fun f vs nw => f = .next ∧ J vs nw) vs nw ∨
      ((∀ pin s, St c pin vs nw s → wpX (MM c.w) c.A (execs body c.env) (fun _ _ => False) (fun e s' => ∃ m tk, e = .ref (s.heap.objs.size + 1) ∧ s' = { s with heap := (s.heap.push (tupOf [m])).push (excOf s.heap.objs.size), toks := tk }) s) ∧
       (∀ pin s ea E, St c pin vs nw s → wpAny (MM c.w) (c.A.mark (some (.ref ea))) (execs (b₀ :: suite) c.env) (fun f s' => 1 ≤ s'.toks → ∃ vs' nw', f = .next ∧ St c pin vs' nw' s' ∧ J vs' nw') E s))) :
    DoZ c L (exec (.Try body [.ExceptHandler (some (.Name x xp)) none (b₀ :: suite) hp] [] [] pos) c.env) (fun f vs nw => f = .next ∧ J vs nw) vs nw := DoZ.mk fun base o s h1 hro h2 S => by
  rw [arm_exec_Try]
  refine wpX_bind (wpX_standAt ?_)
  unfold tryStmt
  simp only [List.isEmpty_nil, if_true, List.isEmpty_cons, Bool.false_and, Bool.false_eq_true, if_false]
  rcases hbody with hb | ⟨hr, hs⟩
  · refine wpX_bind (wpX_attempt (wpX_of (wpAny_mono (hb.use S) (fun f s₁ h₁ => ?_) fun _ _ x => x.elim)))
    obtain ⟨vs', nw', S', rfl, hJ⟩ := h₁
    exact wpX_of (wpAny_execs_nil fun _ => ⟨vs', nw', o.slots, S', rfl, hJ⟩)
  · refine wpX_bind (wpX_attempt (wpX_with_toks S.tk (wpX_mono (hr _ s S) (fun _ _ x => x.elim) fun e s₁ h₁ ht₁ => ?_)))
    obtain ⟨m, tk, rfl, rfl⟩ := h₁
    have k₁ : ∀ b x, s.heap.get? b = some x → ((s.heap.push (tupOf [m])).push (excOf s.heap.objs.size)).get? b = some x := fun b x e => Heap.get?_push_of_some _ (Heap.get?_push_of_some _ e)
    have S₁ := S.ext k₁ ht₁
    have hsz : (s.heap.push (tupOf [m])).objs.size = s.heap.objs.size + 1 := Heap.size_push ..
    have he : ((s.heap.push (tupOf [m])).push (excOf s.heap.objs.size)).get? (s.heap.objs.size + 1) = some (excOf s.heap.objs.size) := by
      rw [← hsz]; exact Heap.get?_push_size _ rfl
    obtain ⟨oc, es, ep, hoc, hdc, _⟩ := id S₁.ns
    have hLg := S₁.pinned L o (.inr ⟨rfl, rfl⟩)
    refine wpX_of (wpAny_bind (wp_note2 (L := L) (Lc := c.env.locals) hfr (by rw [c.hk]; intro q; cases q) hko hf hfo hoc (fun fs q => by rw [hdc] at q; cases q) hLg h2 he rfl rfl fun h₂ tb ts kp hc hL' he' htb hotb hts => ?_))
    obtain ⟨sl, hL'⟩ := hL'
    obtain ⟨otb, ht1, ht2⟩ := hotb
    have hsz2 : ((s.heap.push (tupOf [m])).push (excOf s.heap.objs.size)).objs.size = s.heap.objs.size + 2 := by rw [Heap.size_push, hsz]
    have htb2 : s.heap.objs.size + 2 ≤ tb := by rw [← hsz2]; exact htb
    have old : ∀ b x, s.heap.get? b = some x → b ≠ s.heap.objs.size + 1 ∧ b ≠ tb := fun b x e => ⟨ne_add (Heap.lt_size e) 1, ne_of_lt_add (Heap.lt_size e) htb2⟩
    have hLold : L < s.heap.objs.size := Heap.lt_size (S.pinned L o (.inr ⟨rfl, rfl⟩))
    have hClt : c.env.locals < s.heap.objs.size := S.ns.lt
    have S₂ : St c (withL base L { o with slots := sl }) vs nw { s with heap := h₂, toks := tk } := by
      refine S.slotsL h1 hro hL261 (fun b x hb1 hb2 e => kp b x hb1 hb2 (old b x e).1 (k₁ b x e)) (fun x e => ?_) hL' ht₁
      have := k₁ _ x e
      rw [hoc] at this
      cases this
      exact hc
    -- set the flight down
    have fl : ∀ (h₃ : Heap) (A' : Around) (E' : Value → Shared → Prop) (Q' : Unit → Shared → Prop) (tk' : Nat) (vs' : Vs) (nw' : Nw), True → True := fun _ _ _ _ _ _ _ _ => trivial
    have step : ∀ (A' : Around) (E' : Value → Shared → Prop) (Q' : Unit → Shared → Prop) (h₃ : Heap) (o₃ : Obj) (ts₃ : Array Value), h₃.get? (s.heap.objs.size + 1) = some ((excOf s.heap.objs.size).mapFields (·.setIfInBounds 1 (.ref tb))) → h₃.get? tb = some o₃ → o₃.data = .fields ts₃ → 3 < ts₃.size →
        (∀ h₄ : Heap, ∀ o₄ : Obj, ∀ ts₄ : Array Value, (∀ b x, b ≠ tb → h₃.get? b = some x → h₄.get? b = some x) → h₄.get? tb = some o₄ → o₄.data = .fields ts₄ → 3 < ts₄.size → Q' () { s with heap := h₄, toks := tk }) →
        wpAny (MM c.w) A' (setFlight (.ref (s.heap.objs.size + 1)) none) Q' E' { s with heap := h₃, toks := tk } := by
      intro A' E' Q' h₃ o₃ ts₃ e1 e2 e3 e4 hq
      refine wpAny_setFlight_none e1 (Obj.data_mapFields rfl _) (by simp) e2 e3 e4 (hq _ _ _ (fun b x hb e => ?_) (Heap.get?_update_self _ e2 (Obj.isFreed_of_fields (Obj.data_mapFields e3 _))) (Obj.data_mapFields e3 _) (by simpa using e4))
      rw [Heap.get?_update_other _ _ (Ne.symm hb)]; exact e
    refine wpAny_bind (step _ _ _ h₂ otb ts he' ht1 ht2 hts fun h₃ o₃ ts₃ k₃ g₃ d₃ z₃ => ?_)
    have ne1 : s.heap.objs.size + 1 ≠ tb := ne_add1 htb2
    have S₃ : St c (withL base L { o with slots := sl }) vs nw { s with heap := h₃, toks := tk } := by
      refine S₂.extBut (wr := [tb]) (fun b x hb e => k₃ b x (by simpa using hb) e) (fun b hb => ?_) ht₁
      rw [List.mem_singleton.mp hb]
      refine ⟨lt_of_lt_add hClt htb2, fun x q => ?_, fun p hp e => (old p.1 p.2 (S.own p hp)).2 e⟩
      rcases q with q | ⟨q, _⟩
      · exact (old _ _ (S.pinned _ _ (.inl q))).2 rfl
      · exact ne_of_lt_add hLold htb2 q.symm
    obtain ⟨q1, q2, q3⟩ := c.glo _ (List.mem_of_getElem? hg)
    refine wpAny_handleBy_builtin (X := "ValueError") (T := "ValueError") (b := true) subVE subVT subVV ?_
    refine Name_function_global c.hk q1 (globNsA S₃ q3 ⟨rfl, ?_, ?_⟩) q2
    · refine ⟨_, k₃ _ _ ne1 he', ?_⟩
      exact Obj.cls_mapFields ..
    · rw [if_pos rfl]
      refine step _ _ _ h₃ o₃ ts₃ (k₃ _ _ ne1 he') g₃ d₃ z₃ fun h₄ o₄ ts₄ k₄ g₄ d₄ z₄ => ?_
      have S₄ : St c (withL base L { o with slots := sl }) vs nw { s with heap := h₄, toks := tk } := by
        refine S₃.extBut (wr := [tb]) (fun b x hb e => k₄ b x (by simpa using hb) e) (fun b hb => ?_) ht₁
        rw [List.mem_singleton.mp hb]
        refine ⟨lt_of_lt_add hClt htb2, fun x q => ?_, fun p hp e => (old p.1 p.2 (S.own p hp)).2 e⟩
        rcases q with q | ⟨q, _⟩
        · exact (old _ _ (S.pinned _ _ (.inl q))).2 rfl
        · exact ne_of_lt_add hLold htb2 q.symm
      refine wpAny_mono (hs _ _ _ _ S₄) (fun f s' h' => ?_) fun _ _ x => x
      intro ht
      obtain ⟨vs', nw', rfl, S', hJ⟩ := h' ht
      exact ⟨vs', nw', sl, S', rfl, hJ⟩
end
end Mine
end

section
open PySem PySem.W PySem.Calls PyProof.Rows PySem.SeqAt
set_option maxRecDepth 100000
set_option linter.unusedVariables false
namespace Mine
open PySem.NumText PySem.W.KIN

structure FnRZ (w : World) (L : Addr) (s : Shared) (Post : Value → Nw → Prop) (v : Value) (nw : Nw) (s' : Shared) : Prop where
  post : Post v nw
  gr : Gr w s'.heap
  keep : ∀ b o, b ≠ 53 → b ≠ L → s.heap.get? b = some o → s'.heap.get? b = some o
  slots : ∀ o, s.heap.get? L = some o → ∃ sl, s'.heap.get? L = some { o with slots := sl }
  own : ∀ p ∈ nw, s'.heap.get? p.1 = some p.2 ∧ s.heap.objs.size ≤ p.1
  ord : (nw.map (·.1)).Pairwise (· > ·)
  gens : AllBare s'.gens
  os : s'.os = s.os
  t53 : T53 s.heap s'.heap

noncomputable def FnZ (f : Addr) (n : Nat) (args : List Value) (ro : Nw) (Post : Value → Nw → Prop) : Prop :=
  ∀ (w : World) (A : Around) (s : Shared) (out : Env) (L : Addr), Rm n A → A.frames = some [out] → out.frame = some L → out.scope.kind ≠ .module → 261 ≤ L → (∃ m, s.heap.Ns L m) → Gr w s.heap → AllBare s.gens → 1 ≤ s.toks →
    (∀ p ∈ ro, s.heap.get? p.1 = some p.2 ∧ p.1 ≠ 53 ∧ p.1 ≠ L) →
    codeX (MM w) A (.call (.ref f) ⟨args, []⟩) (fun r s' => ∃ v nw, r = .ok (.ret v) ∧ FnRZ w L s Post v nw s') s

theorem FnZ.of (D : Fd) {n m : Nat} {args : List Value} {ro : Nw} {Post : Value → Nw → Prop} (hm : args.length + m = D.ks.length)
    (hbind : ∀ w, bindArgs (D.fd w) ⟨args, []⟩ = pure ((D.ks.take args.length).zip args))
    (h : ∀ w A Lc os rm low out L, A.frames = some [callEnv (D.fd w) Lc D.f, out] → out.scope.kind ≠ .module → out.frame = some L → 261 ≤ L → DoZ (D.cx w A Lc ro os n rm low) L (execs (D.body w) (callEnv (D.fd w) Lc D.f)) (fun fl _ nw => ∃ nw', nw'.Sublist nw ∧ Post (retOf fl) nw') (args.map some ++ List.replicate m none) []) :
    FnZ D.f (n + 1) args ro Post := by
  intro w A s out L R hfr hof hok hL hLn G gb htk hro
  obtain ⟨o, hl, hd⟩ := D.ho w
  obtain ⟨mL, oL, esL, epL, hoL, hdL, rL⟩ := hLn
  have hle : args.length ≤ D.ks.length := by omega
  have hloc : ∀ x ∈ (D.ks.take args.length).zip args, (D.fd w).scope.names.lookup x.1 = some .local := fun x hx => by
    have h1 : x.1 ∈ D.ks := List.mem_of_mem_take (List.of_mem_zip (a := x.1) (b := x.2) hx).1
    have := List.all_eq_true.mp (D.loc w) _ h1
    rw [Bool.and_eq_true] at this
    exact of_decide_eq_true this.1
  refine codeX_call_function (by have := R.hd; show A.depth < 1000; omega) (G.K _ _ hl) hd (D.co w) (D.gen w) (D.hbody w) (codeRec_of G.K (D.hcode w)) (BindsTo.of_eq (hbind w) _ _ _ _ ?_)
  refine wpAny_newFunctionEnv (fun x hx => by have := List.all_eq_true.mp (D.nocell w) x hx; simpa using this) hloc (fun h₀ hns hsb => ⟨G.nl.fresh _ hsb, codeX_func ?_⟩) (D.kind w)
  have hk : ∀ b o, s.heap.get? b = some o → h₀.get? b = some o := fun b o e => hsb.extBut b o (Nat.ne_of_lt (Heap.lt_size e)) (Heap.get?_push_of_some _ e)
  rw [binds_look D.nd hle hm] at hns
  have hLlt : L < s.heap.objs.size := Heap.lt_size hoL
  have S : St (D.cx w (A.deeper (callEnv (D.fd w) s.heap.objs.size D.f)) s.heap.objs.size ro (s.os, s.heap) n R.deeper G.size) (withL (fun b o => s.heap.get? b = some o ∧ b ≠ 53 ∧ b ≠ L) L oL) (args.map some ++ List.replicate m none) []
      { s with heap := h₀, toks := s.toks + ((D.ks.take args.length).zip args).length } := {
    gr := G.ext fun b o _ e => hk b o e
    ns := hns
    len := by simp; exact hm
    pinned := fun b o h => by
      rcases h with h | ⟨rfl, rfl⟩
      · exact hk b o h.1
      · exact hk _ _ hoL
    pL := fun o h => by
      rcases h with h | ⟨h, _⟩
      · exact Nat.lt_irrefl _ (Heap.lt_size h.1)
      · exact Nat.ne_of_gt hLlt h
    p53 := fun o h => by
      rcases h with h | ⟨h, _⟩
      · exact h.2.1 rfl
      · exact hi_ne hL h.symm
    ro := fun p hp => .inl (hro p hp)
    own := fun p hp => nomatch hp
    nwA := fun p hp => nomatch hp
    ord := List.Pairwise.nil
    gens := gb
    os := rfl
    tk := Nat.le_add_right_of_le htk
    b53 := T53.of_tab G.tab fun o e => hk _ o e }
  refine wpX_mono ((h w _ _ (s.os, s.heap) R.deeper G.size out L (Around.frames_deeper hfr) hok hof hL).use (fun x q => q.2.2 rfl) (fun p hp => hro p hp) (fun fs q => by rw [hdL] at q; cases q) S) (fun fl s' hq => ?_) fun _ _ x => x.elim
  obtain ⟨vs', nw', sl, S', nw'', hsub, hp⟩ := hq
  have S'' := S'.drop hsub
  refine ⟨_, nw'', rfl, ⟨?_, S''.gr, fun b o hb hbL e => S''.pinned b o (.inl ⟨e, hb, hbL⟩), fun o e => ⟨sl, ?_⟩, fun p hp => ⟨S''.own p hp, ?_⟩, S''.ord, S''.gens, S''.os, S''.b53⟩⟩
  · cases fl <;> exact hp
  · rw [hoL] at e; cases e
    exact S''.pinned _ _ (.inr ⟨rfl, rfl⟩)
  · exact Nat.le_of_lt (S''.nwA p hp).1

/-! the call in the caller's walk -/
theorem dox_fnz {c : Cx} {vs : Vs} {nw : Nw} {f : Addr} {n : Nat} {args : List Value} {ro : Nw} {Post : Value → Nw → Prop} {Q : Value → Vs → Nw → Prop} (F : FnZ f n args ro Post) (hn : Nat.ble n c.lev = true)
    (hfr : c.A.frames = some [c.env]) (hf : c.env.frame = some c.env.locals)
    (hro : ∀ p ∈ ro, Has c nw p.1 p.2) (h : ∀ v nw', Post v nw' → Q v vs (nw' ++ nw)) : DoX c (call (.ref f) args) Q vs nw := DoX.mk fun pin s S => by
  have hro' : ∀ p ∈ ro, s.heap.get? p.1 = some p.2 ∧ p.1 ≠ 53 ∧ p.1 ≠ c.env.locals := fun p hp => by
    refine ⟨(S.get (hro p hp)).1, (S.get (hro p hp)).2, fun e => ?_⟩
    rcases hro p hp with q | q
    · exact Nat.ne_of_gt (S.nwA _ q).1 e
    · exact S.pL p.2 (e ▸ S.ro _ q)
  refine wpX_runValue (codeX_mono (F c.w c.A s c.env c.env.locals (c.rm.le (Nat.le_of_ble_eq_true hn)) hfr hf (by rw [c.hk]; intro q; cases q) c.low ⟨_, S.ns⟩ S.gr S.gens S.tk hro') fun r s' hr => ?_)
  obtain ⟨v, nw', rfl, R⟩ := hr
  refine fun ht => ⟨vs, nw' ++ nw, ?_, h v nw' R.post⟩
  exact {
    gr := R.gr
    ns := by
      obtain ⟨o, es, ep, ho, hd, r⟩ := S.ns
      obtain ⟨sl, hs⟩ := R.slots o ho
      exact ⟨_, es, ep, hs, hd, r⟩
    len := S.len
    pinned := fun b o h => R.keep b o (fun e => S.p53 o (e ▸ h)) (fun e => S.pL o (e ▸ h)) (S.pinned b o h)
    pL := S.pL
    p53 := S.p53
    ro := S.ro
    own := fun p hp => by
      rcases List.mem_append.mp hp with hp | hp
      · exact (R.own p hp).1
      · exact R.keep _ _ (hi_ne (Nat.le_trans c.low (Nat.le_of_lt (S.nwA p hp).1))) (Nat.ne_of_gt (S.nwA p hp).1) (S.own p hp)
    nwA := fun p hp => by
      rcases List.mem_append.mp hp with hp | hp
      · have h := (R.own p hp).2
        exact ⟨Nat.lt_of_lt_of_le S.ns.lt h, fun o hpin => Nat.lt_irrefl _ (Nat.lt_of_lt_of_le (Heap.lt_size (S.pinned _ _ hpin)) h)⟩
      · exact S.nwA p hp
    ord := by
      rw [List.map_append]
      refine List.pairwise_append.mpr ⟨R.ord, S.ord, fun a ha b hb => ?_⟩
      obtain ⟨p, hp, rfl⟩ := List.mem_map.mp ha
      obtain ⟨q, hq, rfl⟩ := List.mem_map.mp hb
      exact Nat.lt_of_lt_of_le (Heap.lt_size (S.own q hq)) (R.own p hp).2
    gens := R.gens
    os := R.os.trans S.os
    tk := ht
    b53 := S.b53.trans R.t53 }

/-! re.Pattern.split -/
theorem m_resplit {c : Cx} {vs : Vs} {nw : Nw} {Q : Value → Vs → Nw → Prop} {a : List Nat} {t : Tok} (ha : a.length ≤ 1000000) (hq : ∀ l xs, Txs xs (reParts a) → Q (.ref l) vs ((l, lstOf xs 0) :: nw)) :
    Do c (call (.builtin "re.Pattern.split") [.ref 43, .str (S a) t]) Q vs nw := Do.mk fun pin s St => by
  refine wpAny_call (codeAny_call_builtin slot_re_split.plain entry_re_split (slot_re_split.check _ _ _ _ _ _ _ _ ⟨_, St.gr.K _ _ (pat_at c.w), pat_cls c.w⟩ (args_re_split _ _) ?_))
  exact re_split c.w a t ha St.gr fun xs tk hx => fun ht => ⟨_, _, St.alloc (lstOf xs 0) rfl ht, hq _ _ hx⟩
theorem pat_dict (w : World) : (pat w).dict = none := by
  have h : ((KK w).lookup 43).map (·.dict) = some none := by kernel_rfl
  rw [pat_at] at h
  exact Option.some.inj h
theorem ofType_pat {c : Cx} {nw : Nw} : OfType c nw (.ref 43) "re.Pattern" := .inr ⟨43, pat c.w, rfl, pat_cls c.w, pat_dict c.w, .inr (pat_at c.w)⟩

/-! raising in X -/
section
variable {c : Cx} {vs : Vs} {nw : Nw}
theorem wpX_execs_raise {w : World} {A : Around} {s : Shared} {env : Env} {st : Stmt} {rest : List Stmt} {E : Value → Shared → Prop} (h : wpX (MM w) A (exec st env) (fun _ _ => False) E s) : wpX (MM w) A (execs (st :: rest) env) (fun _ _ => False) E s := fun Γ p hΓ hk => by
  rw [execs_cons, Sem.wp_bind']
  exact Sem.wp_mono (MM w) Γ _ (fun f p' s' h' => h'.elim) (fun _ _ _ h' => h') _ _ (h Γ p hΓ hk)
theorem wpX_Assign_raise {w : World} {A : Around} {s : Shared} {env : Env} {x : Str} {pos' pos : Pos} {value : Expr} {E : Value → Shared → Prop} (h : wpX (MM w) A (eval value env) (fun _ _ => False) E s)
    (hs : swapsWith value (some (.Name x pos')) pos.line env = pure false := by rfl) : wpX (MM w) A (exec (.Assign [.Name x pos'] value pos) env) (fun _ _ => False) E s := fun Γ p hΓ hc => by
  simp only [exec_Assign_Name env x pos' value pos hs, Sem.wp_bind', Sem.wp_cmd_standAt, Sem.wp_bindName, Sem.wp_pure']
  exact Sem.wp_mono (MM w) Γ _ (fun v _ s₁ h₁ => h₁.elim) (fun _ _ _ h' => h') _ _ (h Γ _ hΓ hc)
theorem callT_raise (i : Nat) {x : Str} {np pos : Pos} {args : List Expr} {T : String} {vals : List Value} {pin : Pin} {s : Shared} {E : Value → Shared → Prop} (hk : c.gs[i]? = some (x, .type T)) (S : St c pin vs nw s)
    (h : wpAny (MM c.w) c.A (spliced (backTo pos (starEach args c.env))) (fun as s₁ => wpX (MM c.w) c.A (call (.type T) as) (fun _ _ => False) E s₁) (fun _ _ => False) s)
    (hp : (backTo pos (starEach args c.env)).any (·.1) = false := by rfl) : wpX (MM c.w) c.A (eval (.Call (.Name x np) args [] pos) c.env) (fun _ _ => False) E s := by
  show wpX _ _ (do callWith pos (← eval (.Name x np) c.env) [] (backTo pos (starEach args c.env)) (backToKw pos (keywordEach [] c.env))) _ _ s
  obtain ⟨h1, h2, h3⟩ := c.glo _ (List.mem_of_getElem? hk)
  refine wpX_bind (wpX_of (Name_function_global c.hk h1 (globNsA S h3 ?_) h2))
  unfold callWith
  refine wpX_bind (wpX_holding (wpX_of (evalArgs_of hp (wpAny_mono h (fun as s₂ h₂ => wpX_bind (wpX_standAt ?_)) fun _ _ x => x.elim))))
  simp only [hp, show ((backToKw pos (keywordEach [] c.env)).any fun x => x.1.isNone) = false from rfl, Bool.or_false]
  refine wpX_bind (wpX_pure ?_)
  exact wpX_bind (wpX_mono h₂ (fun _ _ x => x.elim) fun _ _ x => x)
end
end Mine
end

section
open PySem PySem.W PySem.Calls PyProof.Rows PySem.SeqAt
set_option maxRecDepth 100000
set_option linter.unusedVariables false
namespace Mine
open PySem.NumText PySem.W.KIN

noncomputable def D_cv : Fd := mkFd 51 ["version", "component_re", "result", "v", "t"] [("_twin_re_1", .ref 43), ("ValueError", .type "ValueError"), ("int", .type "int"), ("_ver_stages", .ref 44)] (by intro w; kernel_rfl)

noncomputable def seps : List Nat := [46, 95, 43, 45]
noncomputable def cvItem (p : List Nat) : List (Int ⊕ List Nat) := if p <:+: seps then [] else if p.all isDig then [.inl 100, .inl (valOf p)] else [.inl (stageOf p), .inr p]
noncomputable def cvFlat (ps : List (List Nat)) : List (Int ⊕ List Nat) := ps.flatMap cvItem
noncomputable def PartOk (p : List Nat) : Prop := p.length ≤ 640 ∧ (p <:+: seps ∨ (p ≠ [] ∧ ∀ x ∈ p, isDig x = true) ∨ (PySem.intText? (S p) = none ∧ p.all isDig = false ∧ ∀ c ∈ p, c < 16 ^ 8))

/-- a turn's state: the parts' list, the result's list; what else is new may be dropped -/
noncomputable def cvI (a : List Nat) (t : Tok) (ps l : Addr) (parts : List Value) (pp : List (List Nat)) (k : Nat) (vs : Vs) (nw : Nw) : Prop :=
  ∃ xs n x3 x4, vs = [some (.str (S a) t), some (.ref 43), some (.ref l), x3, x4] ∧ [(ps, lstOf parts 0), (l, lstOf xs n)].Sublist nw ∧ Iss xs (cvFlat (pp.take k)) ∧ xs.length ≤ 2 * k
noncomputable def isIss (X : List (Int ⊕ List Nat)) (v : Value) (nw : Nw) : Prop := ∃ l xs n, v = .ref l ∧ nw = [(l, lstOf xs n)] ∧ Iss xs X
/-- behind the try -/
noncomputable def cvJ (a : List Nat) (t : Tok) (l : Addr) (p : List Nat) (nw0 : Nw) (vs : Vs) (nw : Nw) : Prop :=
  ∃ x y, vs = [some (.str (S a) t), some (.ref 43), some (.ref l), some y, some x] ∧ nw = nw0 ∧ Iss [x, y] (cvItem p)

theorem cvFlat_snoc {pp : List (List Nat)} {k : Nat} {p : List Nat} (h : pp[k]? = some p) : cvFlat (pp.take (k + 1)) = cvFlat (pp.take k) ++ cvItem p := by
  unfold cvFlat
  rw [List.take_add_one, h, List.flatMap_append]
  simp

section
variable {c : Cx} {vs : Vs} {nw : Nw}
/-- the arguments: a local name, a written int -/
theorem args_vi {A : Around} {E : Value → Shared → Prop} {pin : Pin} {s : Shared} {i : Nat} {x : Str} {v : Value} {j : Int} {k : Nat} {p1 p2 pos : Pos} {R : List Value → Shared → Prop} (S : St c pin vs nw s) (hk : c.ks[i]? = some x) (hv : vs[i]? = some (some v))
    (h : R [v, .int j s.toks] { s with toks := s.toks + 1 }) : wpAny (MM c.w) A (spliced (backTo pos (starEach [.Name x p1, .Constant (.int j) k p2] c.env))) R E s :=
  wpAny_items_cons (wpAny_Name (wpAny_loadName_local c.hk (c.loc x (List.mem_of_getElem? hk)).1 S.ns (look_get c.nd hk hv) (wpAny_items_cons (wpAny_Constant_int (wpAny_items_nil h)) rfl)) (c.loc x (List.mem_of_getElem? hk)).2) rfl

theorem int_raise {pin : Pin} {s : Shared} {x : Str} {i ti : Nat} {px pi np pos pos' pos'' : Pos} {k : Nat} {rest : List Stmt} {p : List Nat} {u : Tok} (S₀ : St c pin vs nw s) (hk : c.ks[i]? = some x) (hv : vs[i]? = some (some (.str (S p) u))) (hg : c.gs[ti]? = some ((("int" : Str), Value.type "int") : Str × Value))
    (hn : PySem.intText? (S p) = none) (h16 : ∀ y ∈ p, y < 16 ^ 8) (hl : p.length ≤ 640)
    (hs : swapsWith (.Call (.Name "int" np) [.Name x px, .Constant (.int 10) k pi] [] pos) (some (.Name x pos')) pos''.line c.env = pure false := by rfl) :
    wpX (MM c.w) c.A (execs (.Assign [.Name x pos'] (.Call (.Name "int" np) [.Name x px, .Constant (.int 10) k pi] [] pos) pos'' :: rest) c.env) (fun _ _ => False)
      (fun e s' => ∃ m tk, e = .ref (s.heap.objs.size + 1) ∧ s' = { s with heap := (s.heap.push (tupOf [m])).push (excOf s.heap.objs.size), toks := tk }) s := by
  refine wpX_execs_raise (wpX_Assign_raise (callT_raise (vals := []) ti hg S₀ ?_) hs)
  refine args_vi S₀ hk hv ?_
  exact int_call_X (int_new_bad hn h16 (by rw [S_length]; exact hl) c.hh fun m tk => ⟨m, tk, rfl, rfl⟩)

theorem stage_suite {pin : Pin} {s : Shared} {E : Value → Shared → Prop} {A : Around} {x y : Str} {i j gi : Nat} {px pi np ap pos pos' pos'' : Pos} {k : Nat} {p : List Nat} {u : Tok} {J : Vs → Nw → Prop} (S₀ : St c pin vs nw s) (hk : c.ks[i]? = some x) (hv : vs[i]? = some (some (.str (S p) u)))
    (hy : c.ks[j]? = some y) (hg : c.gs[gi]? = some ((("_ver_stages" : Str), Value.ref 44) : Str × Value)) (h : ∀ t', J (vs.set j (some (.int (stageOf p) t'))) nw)
    (hs : swapsWith (.Call (.Attribute (.Name "_ver_stages" np) "get" ap) [.Name x px, .Constant (.int 0) k pi] [] pos) (some (.Name y pos')) pos''.line c.env = pure false := by rfl)
    (hbase : attributeBase (.Name "_ver_stages" np) "get" c.env (eval (.Name "_ver_stages" np) c.env) = eval (.Name "_ver_stages" np) c.env := by rfl) (hline : (ap.endLine == pos.line) = true := by rfl) :
    wpAny (MM c.w) A (execs [.Assign [.Name y pos'] (.Call (.Attribute (.Name "_ver_stages" np) "get" ap) [.Name x px, .Constant (.int 0) k pi] [] pos) pos''] c.env)
      (fun f s' => 1 ≤ s'.toks → ∃ vs' nw', f = .next ∧ St c pin vs' nw' s' ∧ J vs' nw') E s := by
  have hgl := c.glo _ (List.mem_of_getElem? hg)
  have hd : s.heap.DictOf (strKind PR c.w) 44 stageKV := Heap.dictOf_iff.mpr ⟨_, S₀.gr.K _ _ (st_at c.w), st_dict c.w⟩
  refine wpAny_execs_cons (wpAny_Assign_Name (wpAny_Call_method_lateS hbase rfl hline ?_) hs)
  refine Name_function_global c.hk hgl.1 (globNsA S₀ hgl.2.2 ?_) hgl.2.1
  refine ⟨"dict", _, PySem.F.plainAttrs_dict, PySem.F.slot_dict_get, PySem.F.type_dict_get, hd.typeIs, fun a e => ?_, callWith_builtin rfl (evalArgs_of rfl (args_vi S₀ hk hv ?_))⟩
  · cases e
    exact ⟨_, S₀.gr.K _ _ (st_at c.w), by with_unfolding_all rfl⟩
  · refine call_get44 S₀.gr fun t' => ?_
    have S₁ := S₀.toks (tk := s.toks + 1 + 1) (by omega)
    refine wpAny_storeName_local (c.loc y (List.mem_of_getElem? hy)).1 S₁.ns (fun _ hn' hs' => wpAny_execs_nil fun ht => ⟨_, _, rfl, S₁.store hy hn' hs' ht, h t'⟩) (by rw [c.hk]; rfl)
end

theorem fn_cv (a : List Nat) (t : Tok) (ha : a.length ≤ 640) (hp : ∀ p ∈ reParts a, PartOk p) (hlen : (reParts a).length ≤ 2000) : FnZ 51 2 [.str (S a) t] [] (isIss (cvFlat (reParts a))) := by
  refine FnZ.of D_cv (m := 4) rfl (fun w => by kernel_rfl) fun w A Lc os rm low out L hfr hko hfo hL => ?_
  refine doz_cons ?_
  refine .of (do_Assign (i := 1) rfl ?_)
  refine do_glob 0 rfl ?_
  refine doz_cons ?_
  refine .of (do_Assign (i := 2) rfl ?_)
  refine do_List ?_
  refine do_args0 ⟨Nat.le_of_ble_eq_true rfl, fun l => ?_⟩
  refine doz_cons ?_
  refine doz_For ?_
  refine do_Meth plainAttrs_re slot_re_split type_re_split ?_
  refine do_loc 1 rfl rfl ?_
  refine ⟨ofType_pat, ?_⟩
  refine do_args ?_
  refine do_loc 0 rfl rfl ?_
  refine do_args0 ?_
  refine m_resplit (by omega) fun ps parts hparts => ?_
  have hpl : parts.length = (reParts a).length := hparts.len
  refine forZ_list (i := 3) rfl (cvI a t ps l parts (reParts a)) ?_ (.inl (.head _)) (fun k vs nw hI => ?_) (fun k v vs nw hv hI => ?_) fun vs nw hI => ?_
  · exact ⟨[], 0, _, _, rfl, List.Sublist.refl _, All2.nil, Nat.le_refl _⟩
  · obtain ⟨xs, n, x3, x4, _, hsub, _⟩ := hI
    exact .inl (hsub.subset (.head _))
  · obtain ⟨xs, n, x3, x4, rfl, hsub, hxs, hxl⟩ := hI
    obtain ⟨p, u, hk, rfl⟩ := hparts.get hv
    have hkl : k < (reParts a).length := (List.getElem?_eq_some_iff.mp hk).1
    have hok := hp p (List.mem_of_getElem? hk)
    refine DoZ.drop ?_ hsub
    refine doz_cons ?_
    refine doz_If ?_
    refine .of (tr_Compare ?_)
    refine do_loc 3 rfl rfl ?_
    refine do_S seps (by decide +kernel) fun _ => ?_
    refine nin_ss ⟨_, rfl, fun h1 => ?_, fun h1 => ?_⟩
    · have hni : ¬ p <:+: seps := by simpa using h1
      refine doz_cons ?_
      refine (doz_Try (J := cvJ a t l p [(ps, lstOf parts 0), (l, lstOf xs n)]) (i := 1) hfr hko rfl hfo hL rfl ?_).mono ?_
      · obtain ⟨h640, h | ⟨hne, hd⟩ | ⟨hn, hnd, h16⟩⟩ := hok
        · exact absurd h hni
        · refine .inl ?_
          refine do_cons ?_
          refine do_Assign (i := 3) rfl ?_
          refine do_CallT 2 rfl ?_
          refine do_args ?_
          refine do_loc 3 rfl rfl ?_
          refine do_args ?_
          refine do_int fun _ => ?_
          refine do_args0 ?_
          refine m_int_dig hd hne h640 fun _ => ?_
          refine do_cons ?_
          refine do_Assign (i := 4) rfl ?_
          refine do_int fun _ => ?_
          refine do_nil ⟨rfl, _, _, rfl, rfl, ?_⟩
          have e : cvItem p = [.inl 100, .inl (valOf p)] := by
            unfold cvItem
            rw [if_neg hni, if_pos (List.all_eq_true.mpr hd)]
          rw [e]
          exact All2.cons ⟨_, rfl⟩ (All2.cons ⟨_, rfl⟩ All2.nil)
        · refine .inr ⟨fun pin s St => ?_, fun pin s ea E St => ?_⟩
          · exact int_raise (i := 3) (ti := 2) St rfl rfl rfl hn h16 h640
          · refine stage_suite (i := 3) (j := 4) (gi := 3) St rfl rfl rfl rfl fun t' => ⟨_, _, rfl, rfl, ?_⟩
            have e : cvItem p = [.inl (stageOf p), .inr p] := by
              unfold cvItem
              rw [if_neg hni, if_neg (by rw [hnd]; decide)]
            rw [e]
            exact All2.cons ⟨_, rfl⟩ (All2.cons ⟨_, rfl⟩ All2.nil)
      · rintro f vs nw1 ⟨rfl, x, y, rfl, rfl, hxy⟩
        refine doz_cons ?_
        refine .of (do_Expr ?_)
        refine do_Meth F.plainAttrs_list F.slot_list_extend F.type_list_extend ?_
        refine do_loc 2 rfl rfl ?_
        refine ⟨OfType.list (.inl (.tail _ (.head _))), ?_⟩
        refine do_args ?_
        refine do_Tuple ?_
        refine do_args ?_
        refine do_loc 4 rfl rfl ?_
        refine do_args ?_
        refine do_loc 3 rfl rfl ?_
        refine do_args0 ⟨Nat.le_of_ble_eq_true rfl, fun tp => ?_⟩
        refine do_args0 ?_
        refine m_extend_T (k := 2) rfl (.inl (.head _)) (by simp) (by simp; omega) (ret_none ?_)
        refine .of (do_nil ?_)
        refine .of (do_nil ?_)
        refine ⟨_, _, _, _, rfl, (List.Sublist.refl _).cons _, ?_, by simp; omega⟩
        rw [cvFlat_snoc hk]
        exact hxs.app hxy
    · refine .of (do_nil ?_)
      refine .of (do_nil ?_)
      refine ⟨_, _, _, _, rfl, List.Sublist.refl _, ?_, by omega⟩
      rw [cvFlat_snoc hk]
      have e : cvItem p = [] := by
        unfold cvItem
        rw [if_pos (by simpa using h1)]
      rw [e, List.append_nil]
      exact hxs
  · obtain ⟨xs, n, x3, x4, rfl, hsub, hxs, hxl⟩ := hI
    rw [hpl, List.take_length] at hxs
    refine .of (do_cons ?_)
    refine do_Return ?_
    refine do_loc 2 rfl rfl ?_
    exact ⟨_, ((List.Sublist.refl _).cons _).trans hsub, _, _, _, rfl, rfl, hxs⟩
end Mine
end

section
open PySem PySem.W PySem.Calls PySem.Spec PyProof.Rows PySem.SeqAt
open Builtin Builtin.Str
set_option maxRecDepth 100000
set_option linter.unusedVariables false
namespace Mine

theorem slot_filter_init : Slot "filter" "__init__" "object.__init__" :=
  .of (owner := "object") (n := "__init__") (by rw [typeLookup_type, builtinLookup_eq_fast]; kernel_rfl) (by decide +kernel) (by decide +kernel) (by decide +kernel)
    (by first | exact .inl (by decide +kernel) | exact .inr (by decide +kernel)) (by rw [isSubtype_type]; kernel_rfl)
theorem slot_filter_iter : Slot "filter" "__iter__" "filter.__iter__" :=
  .of (owner := "filter") (n := "__iter__") (by rw [typeLookup_type, builtinLookup_eq_fast]; kernel_rfl) (by decide +kernel) (by decide +kernel) (by decide +kernel)
    (by first | exact .inl (by decide +kernel) | exact .inr (by decide +kernel)) (by rw [isSubtype_type]; kernel_rfl)
theorem slot_filter_next : Slot "filter" "__next__" "filter.__next__" :=
  .of (owner := "filter") (n := "__next__") (by rw [typeLookup_type, builtinLookup_eq_fast]; kernel_rfl) (by decide +kernel) (by decide +kernel) (by decide +kernel)
    (by first | exact .inl (by decide +kernel) | exact .inr (by decide +kernel)) (by rw [isSubtype_type]; kernel_rfl)
theorem entry_filter_next : entryFor table "filter.__next__" = some Builtin.«filter.__next__» := entryFor_of_tree (by kernel_rfl)
theorem args_filter_next (a : Value) : argsOk "filter.__next__" ⟨[a], []⟩ := by unfold argsOk; kernel_rfl
theorem args_filter_iter (a : Value) : argsOk "filter.__iter__" ⟨[a], []⟩ := by unfold argsOk; kernel_rfl
theorem entry_filter_iter : entryFor table "filter.__iter__" = some Builtin.«dict_keyiterator.__iter__» :=
  entryFor_alias (id' := "dict_keyiterator.__iter__") (by kernel_rfl) (by first | rfl | decide +kernel | (unfold String.splitOn; simp +decide [String.splitOnAux])) (by decide +kernel) (by kernel_rfl)
theorem mro_filter : mroOf (.type "filter") = pure [.type "filter", .type "object"] := by rw [mroOf_type]; kernel_rfl
theorem lookup_filter_new : typeLookup (.type "filter") "__new__" = pure (some (.builtin "filter.__new__")) := by rw [typeLookup_type, builtinLookup_eq_fast]; kernel_rfl
theorem sub_filter : isSubtype (.type "filter") (.type "filter") = pure true := by rw [isSubtype_type]; kernel_rfl
theorem called_filter : TypeCalled "filter" "filter.__new__" "object.__init__" :=
  ⟨by decide +kernel, by decide +kernel, ⟨_, _, mro_filter⟩, madeBy_type mro_filter lookup_filter_new (by decide +kernel), by decide +kernel, sub_filter, slot_filter_init⟩
theorem typeCall_filter (a b : Value) : checkTypeCall "filter" ⟨[a, b], []⟩ = pure () := by kernel_rfl
theorem newCall_filter (a b : Value) : checkBuiltinCall "filter.__new__" ⟨[.type "filter", a, b], []⟩ = pure () := by kernel_rfl
theorem entry_filter_new : entryFor table "filter.__new__" = some Builtin.«filter.__new__» := entryFor_of_tree (by kernel_rfl)

noncomputable abbrev tupIt (l : Addr) : Obj := { cls := .type "tuple_iterator", data := .fields #[.ref l, .int 0 0] }
noncomputable abbrev filtOf (it : Addr) : Obj := { cls := .type "filter", data := .fields #[.builtin "len", .ref it] }

theorem meets_filter_new (l : Addr) (items : Array Value) (n : Nat) (dct : Option Addr) (sl : Array (Option Value)) :
    Meets (Builtin.«filter.__new__» ⟨[.type "filter", .builtin "len", .ref l], []⟩) (fun _ R s => s.heap.get? l = some { cls := .type "tuple", dict := dct, data := .seq items n, slots := sl } ∧
      R (.ok (.ret (.ref (s.heap.push (tupIt l)).objs.size))) { s with heap := (s.heap.push (tupIt l)).push (filtOf s.heap.objs.size) }) :=
  .of_wp fun prog w A R s h => by
    obtain ⟨hp, g, d, tk, os⟩ := s; obtain ⟨hl, h⟩ := h
    have hsub := sub_filter
    have hL : Heap.IsTuple (Shared.heap ⟨hp, g, d, tk, os⟩) l items := ⟨_, hl, rfl, n, rfl⟩
    wp_walk using wpAny_pyIter_tuple hL
    exact ⟨_, rfl, h⟩

theorem call_filter {w : World} {A : Around} {E : Value → Shared → Prop} {s : Shared} {l : Addr} {items : Array Value} {Q : Value → Shared → Prop} (hL : s.heap.IsTuple l items)
    (h : Q (.ref (s.heap.objs.size + 1)) { s with heap := (s.heap.push (tupIt l)).push (filtOf s.heap.objs.size) }) :
    wpAny (MM w) A (call (.type "filter") [.builtin "len", .ref l]) Q E s := by
  obtain ⟨⟨c, dct, dt, sl⟩, hl, hc, n, hd⟩ := hL
  replace hc : c = .type "tuple" := hc
  replace hd : dt = .seq items n := hd
  subst hc hd
  refine callType_new called_filter (by decide) (typeCall_filter _ _) (newCall_filter _ _) (fun obj => F.args_object_init_3 obj _ _) entry_filter_new
    (meets_filter_new l items n dct sl) ⟨hl, ?_⟩
  have hz : (s.heap.push (tupIt l)).objs.size = s.heap.objs.size + 1 := Heap.size_push ..
  show _ ∧ _
  rw [hz]
  exact ⟨⟨_, by rw [← hz]; exact Heap.get?_push_size _ rfl, rfl⟩, h⟩
end Mine
end

section
open PySem PySem.W PySem.Calls PySem.Spec PyProof.Rows PySem.SeqAt
open Builtin Builtin.Str
set_option maxRecDepth 100000
set_option linter.unusedVariables false
namespace Mine

section
variable {w : World} {A : Around} {E : Value → Shared → Prop} {s : Shared} {fl it tp : Addr} {p : Nat} {a : List Nat} {t : Tok} {items : Array Value}
theorem filt_turn {Q : PySem.Fin → Shared → Prop} (hfl : s.heap.get? fl = some (filtOf it)) (hit : s.heap.IsTupleIter it tp p) (ht : s.heap.IsTuple tp items) (hx : items[p]? = some (.str (S a) t)) (ha : a.length ≤ 16777216)
    (hQ : ∀ h' tk, h'.IsTupleIter it tp (p + 1) → Heap.SameBut it s.heap h' → Q (if a.isEmpty then .again (.builtin "filter.__next__" ⟨[.ref fl], []⟩) else .done (.ret (.str (S a) t))) { s with heap := h', toks := tk }) :
    wpAny (MM w) A (Builtin.«filter.__next__» ⟨[.ref fl], []⟩) Q E s := by
  obtain ⟨o, ho, hc, hd⟩ := id hit
  obtain ⟨ol, hol, _, nl, hdl⟩ := id ht
  show wpAny _ _ (field (.ref fl) 0 >>= _) _ _ s
  refine wpAny_bind (wpAny_field hfl rfl (x := .builtin "len") rfl ?_)
  show wpAny _ _ (field (.ref fl) 1 >>= _) _ _ s
  refine wpAny_bind (wpAny_field hfl rfl (x := .ref it) rfl ?_)
  refine wpAny_bind (wpAny_callSpecial?_slot (name := Str.ofString "__next__") hit.typeIs F.slot_tuple_iterator_next
    (wpAny_call_entry F.slot_tuple_iterator_next hit.typeIs F.entry_tuple_iterator_next ?_ (F.args_tuple_iterator_next_1 _)))
  show wpAny _ _ (field (.ref it) 0 >>= _) _ _ s
  refine wpAny_bind (wpAny_field ho hd (x := .ref tp) rfl ?_)
  show wpAny _ _ (if (Value.ref tp == Value.none) = true then _ else _) _ _ s
  rw [if_neg (show ¬ ((Value.ref tp == Value.none) = true) from Bool.false_ne_true)]
  show wpAny _ _ (field (.ref it) 1 >>= _) _ _ s
  refine wpAny_bind (wpAny_field ho hd (x := .int p 0) rfl ?_)
  show wpAny _ _ (seqItems? (.ref tp) >>= _) _ _ s
  refine wpAny_bind (wpAny_seqItems hol hdl ?_)
  simp only [Int.toNat_natCast, hx]
  refine wpAny_bind (wpAny_setField ho hd (by simp) (wpAny_pure ⟨_, rfl, ?_⟩))
  show wpAny _ _ (holding [Value.str (S a) t] _ >>= _) _ _ _
  refine wpAny_bind (wpAny_holding ?_)
  rw [if_neg (by decide)]
  refine wpAny_bind (len_str (by rw [S_length]; omega) ?_)
  refine wpAny_holding (PySem.P.truthy_int ?_)
  have hb : (((S a).length : Int) != 0) = !a.isEmpty := by rw [S_length]; cases a <;> simp <;> omega
  rw [hb]
  have h2 := hQ (s.heap.update it (Obj.mapFields fun x => x.setIfInBounds 1 (rawInt ((p : Int) + 1)))) (s.toks + 1 + 1) ⟨_, Heap.get?_update_self _ ho (Obj.isFreed_of_fields (Obj.data_mapFields hd _)), (Obj.cls_mapFields ..).trans hc, by
      rw [Obj.data_mapFields hd]; simp [rawInt]⟩ (Heap.SameBut.update ..)
  cases a with
  | nil => exact wpAny_pure h2
  | cons c r => exact wpAny_pure h2

theorem filt_stop {Q : PySem.Fin → Shared → Prop} (hh : A.handled = none) (hfl : s.heap.get? fl = some (filtOf it)) (hit : s.heap.IsTupleIter it tp p) (ht : s.heap.IsTuple tp items) (hx : items[p]? = none)
    (hE : ∀ h' e, Heap.ExtBut it s.heap h' → (∃ o, h'.get? e = some o ∧ o.cls = .type "StopIteration") → E (.ref e) { s with heap := h' }) :
    wpAny (MM w) A (Builtin.«filter.__next__» ⟨[.ref fl], []⟩) Q E s := by
  obtain ⟨o, ho, hc, hd⟩ := id hit
  obtain ⟨ol, hol, _, nl, hdl⟩ := id ht
  show wpAny _ _ (field (.ref fl) 0 >>= _) _ _ s
  refine wpAny_bind (wpAny_field hfl rfl (x := .builtin "len") rfl ?_)
  show wpAny _ _ (field (.ref fl) 1 >>= _) _ _ s
  refine wpAny_bind (wpAny_field hfl rfl (x := .ref it) rfl ?_)
  refine wpAny_bind (wpAny_callSpecial?_slot (name := Str.ofString "__next__") hit.typeIs F.slot_tuple_iterator_next
    (wpAny_call_entry F.slot_tuple_iterator_next hit.typeIs F.entry_tuple_iterator_next ?_ (F.args_tuple_iterator_next_1 _)))
  show wpAny _ _ (field (.ref it) 0 >>= _) _ _ s
  refine wpAny_bind (wpAny_field ho hd (x := .ref tp) rfl ?_)
  show wpAny _ _ (if (Value.ref tp == Value.none) = true then _ else _) _ _ s
  rw [if_neg (show ¬ ((Value.ref tp == Value.none) = true) from Bool.false_ne_true)]
  show wpAny _ _ (field (.ref it) 1 >>= _) _ _ s
  refine wpAny_bind (wpAny_field ho hd (x := .int p 0) rfl ?_)
  show wpAny _ _ (seqItems? (.ref tp) >>= _) _ _ s
  refine wpAny_bind (wpAny_seqItems hol hdl ?_)
  simp only [Int.toNat_natCast, hx]
  refine wpAny_bind (wpAny_rule (wpAny_bind (wpAny_setField ho hd (by simp) ?_)))
  show wpAny _ _ (newExc (.type "StopIteration") [] >>= _) _ _ _
  refine wpAny_bind ?_
  simp only [newExc, newTuple]
  refine wpAny_bind (wpAny_newObj_type ?_ (by size_fits))
  refine wpAny_bind (m := firstArgMember _ _) (wpAny_of_eq (a := Value.none) (by first | rfl | (simp only [firstArgMember]; rfl)) ?_)
  refine wpAny_newObj_type ?_ (by size_fits)
  simp only [raiseNew]
  refine wpAny_bind (wpAny_handled ?_)
  first | rw [show A.in1.handled = none from hh] | rw [hh]
  refine wpAny_bind (wpAny_pure (wpAny_throw ?_))
  exact hE _ _ (((Heap.SameBut.update ..).extBut.push _).push _) ⟨_, Heap.get?_push_size _ rfl, rfl⟩
end

noncomputable def ne0 (a : List Nat) : Bool := !a.isEmpty
theorem filt_snoc {ts : List (List Nat)} {p : Nat} {a : List Nat} (h : ts[p]? = some a) : (ts.take (p + 1)).filter ne0 = (ts.take p).filter ne0 ++ if ne0 a then [a] else [] := by
  rw [List.take_add_one, h, List.filter_append]
  cases hn : ne0 a <;> simp [hn]
theorem filt_at {ts : List (List Nat)} {p : Nat} {a : List Nat} (h : ts[p]? = some a) (hn : ne0 a = true) : (ts.filter ne0)[((ts.take p).filter ne0).length]? = some a := by
  have hs : ts = ts.take (p + 1) ++ ts.drop (p + 1) := (List.take_append_drop _ _).symm
  conv => lhs; arg 1; rw [hs, List.filter_append, filt_snoc h, if_pos hn]
  simp

/-- where the filter stands behind i items -/
noncomputable def FiltSt (fl it tp : Addr) (xs : List Value) (ts : List (List Nat)) (i : Nat) (h : Heap) : Prop :=
  h.get? fl = some (filtOf it) ∧ h.IsTuple tp xs.toArray ∧ ∃ p, p ≤ xs.length ∧ h.IsTupleIter it tp p ∧ ((ts.take p).filter ne0).length = i
noncomputable def FiltP (ts : List (List Nat)) (i : Nat) (v : Value) : Prop := ∃ a t, (ts.filter ne0)[i]? = some a ∧ v = .str (S a) t

section
variable {w : World} {A : Around} {fl it tp : Addr} {xs : List Value} {ts : List (List Nat)}
theorem filt_code (hh : A.handled = none) (hx : Txs xs ts) (hsz : ∀ a ∈ ts, a.length ≤ 16777216) (h1 : fl ≠ it) (h2 : tp ≠ it) {R : Result → Shared → Prop} (i : Nat) : ∀ (k p : Nat) (s : Shared), xs.length - p = k → p ≤ xs.length → s.heap.get? fl = some (filtOf it) → s.heap.IsTuple tp xs.toArray →
    s.heap.IsTupleIter it tp p → ((ts.take p).filter ne0).length = i →
    (i < (ts.filter ne0).length → ∀ v h' tk, FiltP ts i v → FiltSt fl it tp xs ts (i + 1) h' → (∀ b o, b ≠ it → s.heap.get? b = some o → h'.get? b = some o) → R (.ok (.ret v)) { s with heap := h', toks := tk }) →
    (¬ i < (ts.filter ne0).length → ∀ h' e tk, (∀ b o, b ≠ it → s.heap.get? b = some o → h'.get? b = some o) → (∃ o, h'.get? e = some o ∧ o.cls = .type "StopIteration") → R (.error (.ref e)) { s with heap := h', toks := tk }) →
    codeAny (MM w) A (.builtin "filter.__next__" ⟨[.ref fl], []⟩) R s := by
  intro k
  induction k with
  | zero =>
    intro p s hk hp hfl ht hit hc hR hE
    have hpl : p = xs.length := by omega
    refine codeAny_builtin entry_filter_next ?_
    rw [Around.under_plainId slot_filter_next.plain _]
    refine filt_stop (p := p) (show A.in1.handled = none from hh) hfl hit ht (by simp [hpl]) fun h' e he hx' => hE ?_ h' e s.toks (fun b o hb => he b o hb) hx'
    rw [hpl, hx.len, List.take_length] at hc
    omega
  | succ k ih =>
    intro p s hk hp hfl ht hit hc hR hE
    have hlt : p < xs.length := by omega
    obtain ⟨a, t, hta, hv⟩ := hx.get (List.getElem?_eq_getElem hlt)
    refine codeAny_builtin entry_filter_next ?_
    rw [Around.under_plainId slot_filter_next.plain _]
    refine filt_turn (p := p) (a := a) (t := t) hfl hit ht (by simpa [hlt] using hv) (hsz a (List.mem_of_getElem? hta)) fun h' tk hit' hs' => ?_
    have hk' : ∀ b o, b ≠ it → s.heap.get? b = some o → h'.get? b = some o := fun b o hb e => hs'.extBut b o hb e
    have hfl' := hk' _ _ h1 hfl
    have ht' : h'.IsTuple tp xs.toArray := ht.extBut hs'.extBut h2
    have hsn := filt_snoc hta
    cases ha : a.isEmpty with
    | true =>
      rw [if_pos rfl]
      rw [show ne0 a = false from by unfold ne0; rw [ha]; rfl] at hsn
      simp only [Bool.false_eq_true, if_false, List.append_nil] at hsn
      refine ⟨plainId_quiet slot_filter_next.plain _, ih (p + 1) _ (by omega) hlt hfl' ht' hit' (by rw [hsn]; exact hc) (fun hi v h'' tk' hP hS hk'' => hR hi v h'' tk' hP hS fun b o hb e => hk'' b o hb (hk' b o hb e)) fun hi h'' e tk' hk'' hx' => hE hi h'' e tk' (fun b o hb e => hk'' b o hb (hk' b o hb e)) hx'⟩
    | false =>
      rw [if_neg (by decide)]
      have hn : ne0 a = true := by unfold ne0; rw [ha]; rfl
      rw [hn] at hsn
      simp only [if_true] at hsn
      have hat := filt_at hta hn
      rw [hc] at hat
      refine hR (List.getElem?_eq_some_iff.mp hat).1 _ h' tk ⟨a, t, hat, rfl⟩ ⟨hfl', ht', p + 1, hlt, hit', ?_⟩ hk'
      rw [hsn, List.length_append, hc]; rfl

theorem Walks.filter (hh : A.handled = none) (hx : Txs xs ts) (hsz : ∀ a ∈ ts, a.length ≤ 16777216) (h1 : fl ≠ it) (h2 : tp ≠ it) :
    Walks PR w A fl [fl, it, tp] [it] (ts.filter ne0).length (FiltP ts) (FiltSt fl it tp xs ts) where
  sub := fun b hb => by simp at hb; simp [hb]
  frame := fun i h h' st hk => by
    obtain ⟨a, b, p, c, d, e⟩ := st
    exact ⟨hk _ (by simp) _ a, (let ⟨o, ho, r⟩ := b; ⟨o, hk _ (by simp) _ ho, r⟩), p, c, (let ⟨o, ho, r⟩ := d; ⟨o, hk _ (by simp) _ ho, r⟩), e⟩
  item := fun i s Q E hi st hQ => by
    obtain ⟨a, b, p, c, d, e⟩ := st
    have hT : s.TypeIs (.ref fl) "filter" := ⟨_, a, rfl⟩
    unfold pyNext
    refine wpAny_bind (wpAny_attempt (wpAny_callSpecial?_slot (name := Str.ofString "__next__") hT slot_filter_next (wpAny_call (codeAny_call_builtin_code (plainId_quiet slot_filter_next.plain _) (slot_filter_next.check _ _ _ _ _ _ _ _ hT (args_filter_next _) ?_)))))
    refine filt_code hh hx hsz h1 h2 i _ p s rfl c a b d e (fun _ v h' tk hP hS hk => wpAny_pure (hQ v h' tk hP hS fun x o hb => hk x o (fun q => hb (by simp [q])))) fun hn => absurd hi hn
  done := fun s Q E st hQ => by
    obtain ⟨a, b, p, c, d, e⟩ := st
    have hT : s.TypeIs (.ref fl) "filter" := ⟨_, a, rfl⟩
    unfold pyNext
    refine wpAny_bind (wpAny_attempt (wpAny_callSpecial?_slot (name := Str.ofString "__next__") hT slot_filter_next (wpAny_call (codeAny_call_builtin_code (plainId_quiet slot_filter_next.plain _) (slot_filter_next.check _ _ _ _ _ _ _ _ hT (args_filter_next _) ?_)))))
    refine filt_code hh hx hsz h1 h2 _ _ p s rfl c a b d e (fun hn => absurd hn (Nat.lt_irrefl _)) fun _ h' ex tk hk hx' => ?_
    obtain ⟨o, ho, hc⟩ := hx'
    refine wpAny_bind (wpAny_isInstance (T := "StopIteration") (b := true) ⟨o, ho, hc⟩ isSubtype_stop ?_)
    exact wpAny_pure (hQ h' tk fun x o hb => hk x o (fun q => hb (by simp [q])))
  self := fun i s Q E st hQ => by
    have hT : s.TypeIs (.ref fl) "filter" := ⟨_, st.1, rfl⟩
    refine wpAny_pyIter_slot hT slot_filter_iter (wpAny_call_entry slot_filter_iter hT entry_filter_iter ?_ (args_filter_iter _))
    show wpAny _ _ (ret (.ref fl)) _ _ s
    exact wpAny_pure ⟨_, rfl, "filter", _, hT, slot_filter_next.lookup, hQ⟩
end
end Mine
end

section
open PySem PySem.W PySem.Calls PySem.Spec PyProof.Rows PySem.SeqAt
open Builtin Builtin.Str
set_option maxRecDepth 100000
set_option linter.unusedVariables false
namespace Mine

section
variable {c : Cx} {pin : Pin} {vs : Vs} {nw : Nw} {s s' : Shared}
/-- moved on: all kept but some that nothing of the state lies at -/
theorem St.move (S : St c pin vs nw s) {wr : List Addr} (hk : ∀ b o, b ∉ wr → s.heap.get? b = some o → s'.heap.get? b = some o)
    (hw : ∀ b ∈ wr, c.env.locals < b ∧ (∀ o, ¬ pin b o) ∧ ∀ p ∈ nw, p.1 ≠ b) (hg : AllBare s'.gens) (hos : s'.os = s.os) (ht : 1 ≤ s'.toks) : St c pin vs nw s' where
  gr := S.gr.ext fun b o hb e => hk b o (fun hm => Nat.lt_irrefl _ (Nat.lt_trans (Nat.lt_of_lt_of_le hb c.low) (hw b hm).1)) e
  ns := S.ns.at' fun o e => hk _ o (fun hm => Nat.lt_irrefl _ (hw _ hm).1) e
  len := S.len
  pinned := fun b o h => hk b o (fun hm => (hw b hm).2.1 o h) (S.pinned b o h)
  pL := S.pL
  p53 := S.p53
  ro := S.ro
  own := fun p hp => hk _ _ (fun hm => (hw _ hm).2.2 p hp rfl) (S.own p hp)
  nwA := S.nwA
  ord := S.ord
  gens := hg
  os := hos.trans S.os
  tk := ht
  b53 := S.b53.step fun o e => hk _ o (fun hm => Nat.lt_irrefl _ (Nat.lt_trans (Nat.lt_of_lt_of_le (show 53 < 261 by decide) c.low) (hw _ hm).1)) e

/-- the code table has grown -/
theorem St.grow (S : St c pin vs nw s) {h' : Heap} {tk : Nat} (hk : Heap.ExtBut 53 s.heap h') (ht : Tab h') (h53 : T53 s.heap h') (htk : 1 ≤ tk) : St c pin vs nw { s with heap := h', toks := tk } where
  gr := { K := fun a o e => hk a o (kk_key e).2 (S.gr.K a o e)
          g := let ⟨m, hn⟩ := S.gr.g; ⟨m, hn.at' fun o e => hk _ o (by decide) e⟩
          b := let ⟨m, hn, hb⟩ := S.gr.b; ⟨m, hn.at' fun o e => hk _ o (by decide) e, hb⟩
          nl := let ⟨m, hn, hb⟩ := S.gr.nl; ⟨m, hn.at' fun o e => hk _ o (by decide) e, hb⟩
          nd := let ⟨m, hn, hb⟩ := S.gr.nd; ⟨m, hn.at' fun o e => hk _ o (by decide) e, hb⟩
          tab := ht
          bi := let ⟨ob, h1, h2⟩ := S.gr.bi; ⟨ob, hk _ _ (by decide) h1, h2⟩ }
  ns := S.ns.at' fun o e => hk _ o (hi_ne c.low) e
  len := S.len
  pinned := fun b o h => hk b o (fun e => S.p53 o (e ▸ h)) (S.pinned b o h)
  pL := S.pL
  p53 := S.p53
  ro := S.ro
  own := fun p hp => hk _ _ (hi_ne (Nat.le_trans c.low (Nat.le_of_lt (S.nwA p hp).1))) (S.own p hp)
  nwA := S.nwA
  ord := S.ord
  gens := S.gens
  os := S.os
  tk := htk
  b53 := S.b53.trans h53

theorem gencode {M : Model} {A : Around} {E : Value → Shared → Prop} {s : Shared} {env : Env} {pos : Pos} {q : Str} {scope : Scope} {Q : Value → Shared → Prop} (hc : env.code = .ref 57) (t : Tab s.heap)
    (hQ : ∀ code h' tk, Heap.ExtBut 53 s.heap h' → Tab h' → T53 s.heap h' → s.heap.objs.size ≤ h'.objs.size → Q code { s with heap := h', toks := tk }) : wpAny M A (genexprCode env pos q scope) Q E s := by
  obtain ⟨ps, h1, h2⟩ := t
  cases hnf : codeAmong pos ps.toList with
  | some cv => exact wpAny_genexprCode_hit hc h1 hnf (hQ cv s.heap s.toks (Heap.ExtBut.refl _ _) ⟨ps, h1, h2⟩ (T53.of_tab ⟨ps, h1, h2⟩ fun _ e => e) (Nat.le_refl _))
  | none =>
    refine wpAny_genexprCodeX hc h1 h2 hnf fun c' h' tk hx hle hlt hcd _ htab _ => hQ _ h' tk hx ⟨_, hcd, htab⟩ (fun o e => ?_) (Nat.le_trans hle (Nat.le_of_lt hlt))
    have e2 := h2.2
    rw [e] at e2
    cases e2
    exact ⟨ps, _, rfl, htab.2⟩

theorem do_filter {tp : Addr} {xs : List Value} {Q : Value → Vs → Nw → Prop} (hT : Has c nw tp (tupOf xs)) (h : ∀ fl it, Q (.ref fl) vs ((fl, filtOf it) :: (it, tupIt tp) :: nw)) :
    Do c (call (.type "filter") [.builtin "len", .ref tp]) Q vs nw := Do.mk fun pin s St => by
  refine call_filter (isT St hT) fun ht => ?_
  have S₁ := (St.alloc (tupIt tp) rfl St.tk).alloc (filtOf s.heap.objs.size) (tk := s.toks) rfl ht
  have hz : (s.heap.push (tupIt tp)).objs.size = s.heap.objs.size + 1 := Heap.size_push ..
  have e : ({ s with heap := s.heap.push (tupIt tp), toks := s.toks } : Shared).heap.objs.size = s.heap.objs.size + 1 := hz
  rw [e] at S₁
  exact ⟨_, _, S₁, h _ _⟩
end

theorem joinOkL {z : List Nat} {ts : List (List Nat)} (hok : (ts.map (·.length)).sum + ts.length * z.length ≤ 16777216) : JoinOk (S z) (ts.map S) = true := by
  refine joinOk_of ?_
  have e : ((ts.map S).map (·.length)) = ts.map (·.length) := by rw [List.map_map]; exact List.map_congr_left fun a _ => S_length a
  rw [e, List.length_map, S_length]; exact hok

section
variable {c : Cx} {vs : Vs} {nw : Nw}
structure ScOk (scope : Scope) : Prop where
  co : scope.isCoroutine = false
  cell : ∀ y ∈ scope.names, y.2 ≠ .cell
  z : scope.names.lookup (".0" : Str) = some NameKind.local
  x : scope.names.lookup ("x" : Str) = some NameKind.local
  kind : scope.kind = .function

/-- the generator's item: x.strip() -/
theorem strip_x {w : World} {A : Around} {E : Value → Shared → Prop} {s : Shared} {scope : Scope} {C : Addr} {code : Value} {bi : Addr} {env : Env} {px pa pc : Pos} {a : List Nat} {t : Tok} {m : Str → Option Value} (sc : ScOk scope) (hn : s.heap.Ns (genEnv scope [] C code bi env).locals m) (hm : m "x" = some (.str (S a) t))
    (ha : a.length ≤ 16777216) (hline : (pa.endLine == pc.line) = true) :
    wpAny (MM w) A (eval (.Call (.Attribute (.Name "x" px) "strip" pa) [] [] pc) (genEnv scope [] C code bi env)) (fun y s₃ => (∃ t, y = .str (S (trim Unicode.isSpace a)) t) ∧ Keeps s s₃) E s := by
  refine wpAny_Call_method_lateS rfl rfl hline (wpAny_Name (wpAny_loadName_local sc.kind sc.x hn hm ?_) rfl)
  refine ⟨"str", _, F.plainAttrs_str, F.slot_str_strip, F.type_str_strip, typeIs_str _ _ _, fun a e => (nomatch e), callWith_builtin rfl (evalArgs_of rfl (wpAny_items_nil ?_))⟩
  exact SC.strip (fun t' k => ⟨⟨t', by rw [strip_S]⟩, s.heap, k, rfl, fun _ _ e => e⟩) (by rw [S_length, sizeLine_eq]; exact ha)

theorem trim_le (g : Nat → Bool) (l : List Nat) : (trim g l).length ≤ l.length := by
  unfold trim rtrim
  rw [List.length_reverse]
  exact Nat.le_trans (List.dropWhile_sublist _).length_le (by rw [List.length_reverse]; exact (List.dropWhile_sublist _).length_le)
theorem wt_trimmed {ts : List (List Nat)} (hw : wt ts ≤ 100000) : ((((ts.filter ne0).map (trim Unicode.isSpace))).map (·.length)).sum + ((ts.filter ne0).map (trim Unicode.isSpace)).length * [45].length ≤ 16777216 := by
  have key : ∀ l : List (List Nat), (((l.filter ne0).map (trim Unicode.isSpace)).map (·.length)).sum + ((l.filter ne0).map (trim Unicode.isSpace)).length ≤ wt l := by
    intro l
    induction l with
    | nil => simp [wt]
    | cons a l ih =>
      have h1 := trim_le Unicode.isSpace a
      rw [show a :: l = [a] ++ l from rfl, wt_app, wt_one]
      by_cases h : ne0 a = true
      · simp only [List.singleton_append, List.filter_cons, h, if_true, List.map_cons, List.sum_cons, List.length_cons] at ih ⊢
        omega
      · simp only [List.singleton_append, List.filter_cons, h, if_false, Bool.false_eq_true] at ih ⊢
        omega
  have := key ts
  rw [show [45].length = 1 from rfl, Nat.mul_one]
  omega
theorem kBi (w : World) : (nsIn (KK w) mainGlobals "__builtins__" == some (some (.ref 4))) = true := by kernel_rfl
theorem passing_true : ∀ (n : Nat), passing (fun _ => true) n 0 = List.range n := by
  intro n
  unfold passing
  simp

theorem do_joinStrip {Q : Value → Vs → Nw → Prop} {i fi li : Nat} {an : Str} {tp : Addr} {xs : List Value} {ts : List (List Nat)} {scope : Scope} {k : Nat} {p0 ap px pa pc px' pf pl pn pcf pg pos : Pos}
    (hcode : c.env.code = .ref 57) (sc : ScOk scope) (hclos : closureFor scope c.env = pure []) (hf : c.gs[fi]? = some ((("filter" : Str), Value.type "filter") : Str × Value)) (hl : c.gs[li]? = some ((("len" : Str), Value.builtin "len") : Str × Value)) (hk : c.ks[i]? = some an) (hv : vs[i]? = some (some (.ref tp)))
    (hT : Has c nw tp (tupOf xs)) (hx : Txs xs ts) (hw : wt ts ≤ 100000) (hline : (ap.endLine == pos.line) = true) (hline' : (pa.endLine == pc.line) = true)
    (h : ∀ t, Q (.str (S (joinL [45] ((ts.filter ne0).map (trim Unicode.isSpace)))) t) vs nw) :
    Do c (eval (.Call (.Attribute (.Constant (.str "-") k p0) "join" ap) [.GeneratorExp (.Call (.Attribute (.Name "x" px) "strip" pa) [] [] pc) [⟨.Name "x" px', .Call (.Name "filter" pf) [.Name "len" pl, .Name an pn] [] pcf, [], 0⟩] scope pg] [] pos) c.env) Q vs nw := Do.mk fun pin s S₀ => by
  have hsz : ∀ a ∈ ts, a.length ≤ 16777216 := fun a ha => by have := wt_mem ha; omega
  refine wpAny_Call_method_lateS rfl rfl hline (wpAny_Constant_str ?_)
  refine ⟨"str", _, F.plainAttrs_str, F.slot_str_join, F.type_str_join, typeIs_str _ _ _, fun a e => (nomatch e), callWith_builtin rfl (evalArgs_of rfl (wpAny_items_cons ?_ rfl))⟩
  have S₀' := S₀.toks (tk := s.toks + 1) (by omega)
  refine wpAny_GeneratorExp_walksQ c.hh sc.co hclos sc.cell sc.z sc.x sc.kind S₀.room ?_ (by intro _; rfl)
  refine wpAny_mono (Do.use (Q := fun xv vs' nw' => ∃ fl it, xv = .ref fl ∧ vs' = vs ∧ nw' = (fl, filtOf it) :: (it, tupIt tp) :: nw) ?_ S₀') (fun xv s₁ h₁ => ?_) fun _ _ z => z.elim
  · refine do_CallT fi hf ?_
    refine do_args ?_
    refine do_glob li hl ?_
    refine do_args ?_
    refine do_loc i hk hv ?_
    refine do_args0 ?_
    exact do_filter hT fun fl it => ⟨fl, it, rfl, rfl, rfl⟩
  obtain ⟨_, _, S₁, fl, it, rfl, rfl, rfl⟩ := h₁
  have gfl := S₁.own _ (.head _)
  have git := S₁.own _ (.tail _ (.head _))
  have hTp := S₁.get (hT.elim (fun q => .inl (.tail _ (.tail _ q))) .inr : Has c _ tp (tupOf xs))
  have ord := S₁.ord
  have h1 : fl ≠ it := Nat.ne_of_gt (by have := List.rel_of_pairwise_cons ord (a' := it) (by simp); exact this)
  have hitA := S₁.nwA _ (.tail _ (.head _))
  have h2 : tp ≠ it := by
    rintro rfl
    rw [hTp.1] at git
    have e1 : tupOf xs = tupIt tp := Option.some.inj git
    have e2 := congrArg Obj.cls e1
    exact absurd (show Value.type "tuple" = Value.type "tuple_iterator" from e2) (by decide)
  have hst : FiltSt fl it tp xs ts 0 s₁.heap := ⟨gfl, ⟨_, hTp.1, rfl, 0, rfl⟩, 0, Nat.zero_le _, ⟨_, git, rfl, rfl⟩, by simp⟩
  have W : ∀ A' : Around, A'.handled = none → Walks PR c.w A' fl [fl, it, tp] [it] (ts.filter ne0).length (FiltP ts) (FiltSt fl it tp xs ts) := fun A' hA => Walks.filter hA hx hsz h1 h2
  refine (W c.A c.hh).self 0 s₁ _ _ hst ⟨S₁.gr.nl, ?_⟩
  refine wpAny_with_toks S₁.tk (gencode hcode S₁.gr.tab fun code h' tk hx53 htab ht53 hle => fun htk => ?_)
  have S₂ := S₁.grow hx53 htab ht53 htk
  obtain ⟨mg, hg⟩ := S₂.gr.g
  obtain ⟨ob, b1, b2, b3, b4⟩ := S₂.gr.bi
  refine wpAny_builtinsFor (m := mg) (bm := 4) (o := ob) (by rw [c.hg]; exact hg) (mg_of S₂.gr.K hg (eq_of_beq (kBi c.w))) (by decide) b1 b2 b3 b4 ?_
  have hflA := S₁.nwA _ (.head _)
  have n53 : ∀ b ∈ [fl, it, tp], b ≠ 53 := fun b hb => by
    rcases List.mem_cons.mp hb with rfl | hb
    · exact hi_ne (Nat.le_trans c.low (Nat.le_of_lt hflA.1))
    rcases List.mem_cons.mp hb with rfl | hb
    · exact hi_ne (Nat.le_trans c.low (Nat.le_of_lt hitA.1))
    · rw [List.mem_singleton.mp hb]; exact hTp.2
  have hst₂ : FiltSt fl it tp xs ts 0 h' := (W c.A c.hh).frame 0 _ _ hst fun b hb o e => hx53 b o (n53 b hb) e
  have lt₂ : ∀ b ∈ [fl, it, tp], b < h'.objs.size := fun b hb => by
    rcases List.mem_cons.mp hb with rfl | hb
    · exact Heap.lt_size hst₂.1
    rcases List.mem_cons.mp hb with rfl | hb
    · obtain ⟨_, _, _, _, ⟨o, ho, _⟩, _⟩ := hst₂; exact Heap.lt_size ho
    · rw [List.mem_singleton.mp hb]; obtain ⟨_, ⟨o, ho, _⟩, _⟩ := hst₂; exact Heap.lt_size ho
  have hit261 : 261 < it := Nat.lt_of_le_of_lt c.low hitA.1
  refine ⟨fl, [fl, it, tp], [it], _, FiltP ts, FiltSt fl it tp xs ts, (fun _ => true), (fun i y => ∃ a t, (ts.filter ne0)[i]? = some a ∧ y = .str (S (trim Unicode.isSpace a)) t), rfl, W, hst₂, lt₂, S₂.gr.nl, ?_, (fun href hhref => ⟨fun A' E' i v s₂ m₂ hA hP hn hm _ => ?_, fun A' E' i v s₂ m₂ hA hP _ hn hm _ => ?_⟩), fun a h₅ tk₅ gs hgb hag hsz₅ hk₅ W5 hat => ?_⟩
  · intro hm
    rw [← List.mem_singleton.mp hm] at hit261
    exact absurd hit261 (by decide)
  · rw [List.forIn_nil]
    exact wpAny_pure ⟨rfl, s₂.heap, s₂.toks, rfl, fun _ _ e => e⟩
  · obtain ⟨a, t, ha, rfl⟩ := hP
    refine wpAny_mono (strip_x sc hn hm (hsz a (List.mem_filter.mp (List.mem_of_getElem? ha)).1) hline') (fun y s₃ hy => ?_) fun _ _ z => z
    obtain ⟨⟨t', rfl⟩, hkp⟩ := hy
    exact ⟨⟨a, t', ha, rfl⟩, hkp⟩
  · refine wpAny_items_nil ?_
    have hlen : (passing (fun _ => true) (ts.filter ne0).length 0).length = (ts.filter ne0).length := by rw [passing_true, List.length_range]
    have hwl : (ts.filter ne0).length ≤ 100000 := Nat.le_trans (List.length_filter_le _ _) (Nat.le_trans (wt_len ts) hw)
    refine SC.joinGen W5.in4_2 (fun i s' st => st.1.typeIs) hat (fun b hb => ?_) (List.mem_cons_self ..) (fun j v hv => ?_) (fun s' l hm hacc => ?_) (by rw [hlen, sizeLine_eq]; omega)
    · show b < h₅.objs.size
      rw [hsz₅]
      rcases List.mem_cons.mp hb with rfl | hb
      · exact Nat.lt_succ_self _
      rcases List.mem_cons.mp hb with rfl | hb
      · exact Nat.lt_succ_of_lt hag
      · exact Nat.lt_succ_of_lt (Nat.lt_trans (List.mem_range.mp hb) hag)
    · obtain ⟨i, _, a, t, _, rfl⟩ := hv
      exact ⟨_, _, rfl⟩
    · have hl : l.map (·.1) = ((ts.filter ne0).map (trim Unicode.isSpace)).map S := by
        apply List.ext_getElem?
        intro j
        have hll : l.length = (ts.filter ne0).length := by have := hacc.1; rw [hlen] at this; simpa [strValues] using this
        by_cases hj : j < (ts.filter ne0).length
        · have hj' : j < l.length := hll ▸ hj
          obtain ⟨i, hi, a, t, ha, hv⟩ := hacc.2 j (.str l[j].1 l[j].2) (by simp [strValues, List.getElem?_eq_getElem hj'])
          rw [passing_true, List.getElem?_range hj] at hi
          cases hi
          injection hv with h1 _
          simp [List.getElem?_eq_getElem hj', ha, h1]
        · rw [List.getElem?_eq_none (by simpa [hll] using Nat.le_of_not_lt hj), List.getElem?_eq_none (by simpa using Nat.le_of_not_lt hj)]
      rw [hl]
      refine ⟨joinOkL ?_, fun t' k ht => ?_⟩
      · exact wt_trimmed hw
      · have S₃ : St c pin _ nw _ := S₂.drop (nw' := nw) (((List.Sublist.refl nw).cons _).cons _)
        refine ⟨_, nw, S₃.move (wr := h'.objs.size :: [it]) (fun b o hb e => hm.heap b o hb (hk₅ b o e)) (fun b hb => ?_) ((S₂.gens.push hgb).moved hm.gens) hm.os ht, ?_⟩
        · rcases List.mem_cons.mp hb with rfl | hb
          · exact notMem_of_ge S₃ (Nat.le_refl _)
          · rw [List.mem_singleton.mp hb]
            refine ⟨hitA.1, hitA.2, fun p hp => Nat.ne_of_lt ?_⟩
            have h3 := (List.pairwise_cons.mp ord).2
            rw [List.map_cons] at h3
            exact (List.pairwise_cons.mp h3).1 p.1 (List.mem_map.mpr ⟨p, hp, rfl⟩)
        · rw [show (("-" : Str)) = S [45] from by decide +kernel, txtjoin_S]
          exact h t'
end
end Mine
end

section
open PySem PySem.W PySem.Calls PySem.Spec PyProof.Rows PySem.SeqAt
set_option maxRecDepth 100000
set_option linter.unusedVariables false
namespace Mine

/-- a def whose last parameter takes the rest -/
theorem Fn.ofV (D : Fd) {n m : Nat} {as fixed rest : List Value} {ro : Nw} {Post : Value → Nw → Prop} (hsz : rest.length ≤ sizeLine) (hm : fixed.length + 1 + m = D.ks.length)
    (hbind : ∀ w, bindArgs (D.fd w) ⟨as, []⟩ = (newTuple rest >>= fun t => pure ((D.ks.take (fixed.length + 1)).zip (fixed ++ [t]))))
    (h : ∀ w A L os rm low tp, Do (D.cx w A L ((tp, tupOf rest) :: ro) os n rm low) (execs (D.body w) (callEnv (D.fd w) L D.f)) (fun fl _ nw => ∃ nw', nw'.Sublist nw ∧ Post (retOf fl) nw') ((fixed ++ [Value.ref tp]).map some ++ List.replicate m none) []) :
    Fn D.f (n + 1) as ro Post := by
  intro w A s R G gb htk hro
  obtain ⟨o, hl, hd⟩ := D.ho w
  have hlen : ∀ t : Value, (fixed ++ [t]).length = fixed.length + 1 := fun t => by simp
  have hloc : ∀ t : Value, ∀ x ∈ (D.ks.take (fixed.length + 1)).zip (fixed ++ [t]), (D.fd w).scope.names.lookup x.1 = some .local := fun t x hx => by
    have h1 : x.1 ∈ D.ks := List.mem_of_mem_take (List.of_mem_zip (a := x.1) (b := x.2) hx).1
    have := List.all_eq_true.mp (D.loc w) _ h1
    rw [Bool.and_eq_true] at this
    exact of_decide_eq_true this.1
  refine codeAny_call_function (by have := R.hd; show A.depth < 1000; omega) (G.K _ _ hl) hd (D.co w) (D.gen w) (D.hbody w) (codeRec_of G.K (D.hcode w)) ?_
  rw [hbind w]
  refine wpAny_bind (wpAny_newTuple (wpAny_pure ?_) hsz)
  have k₁ : ∀ b o, s.heap.get? b = some o → (s.heap.push (tupOf rest)).get? b = some o := fun b o e => Heap.get?_push_of_some _ e
  have G₁ : Gr w (s.heap.push (tupOf rest)) := G.ext fun b o _ e => k₁ b o e
  refine wpAny_newFunctionEnv (fun x hx => by have := List.all_eq_true.mp (D.nocell w) x hx; simpa using this) (hloc _) (fun h₀ hns hsb => ⟨G₁.nl.fresh _ hsb, codeAny_func ?_⟩) (D.kind w)
  have hk : ∀ b o, (s.heap.push (tupOf rest)).get? b = some o → h₀.get? b = some o := fun b o e => hsb.extBut b o (Nat.ne_of_lt (Heap.lt_size e)) (Heap.get?_push_of_some _ e)
  have hz : (s.heap.push (tupOf rest)).objs.size = s.heap.objs.size + 1 := Heap.size_push ..
  have ht : (s.heap.push (tupOf rest)).get? s.heap.objs.size = some (tupOf rest) := Heap.get?_push_size _ rfl
  rw [show (fixed.length + 1) = (fixed ++ [Value.ref s.heap.objs.size]).length from (hlen _).symm, binds_look D.nd (by rw [hlen]; omega) (by rw [hlen]; exact hm)] at hns
  have S : St (D.cx w (A.deeper (callEnv (D.fd w) (s.heap.push (tupOf rest)).objs.size D.f)) (s.heap.push (tupOf rest)).objs.size ((s.heap.objs.size, tupOf rest) :: ro) (s.os, s.heap) n R.deeper G₁.size)
      (fun b o => (s.heap.push (tupOf rest)).get? b = some o ∧ b ≠ 53) ((fixed ++ [Value.ref s.heap.objs.size]).map some ++ List.replicate m none) []
      { s with heap := h₀, toks := s.toks + ((D.ks.take (fixed.length + 1)).zip (fixed ++ [Value.ref s.heap.objs.size])).length } := {
    gr := G₁.ext fun b o _ e => hk b o e
    ns := hns
    len := by simp; show fixed.length + (m + 1) = D.ks.length; omega
    pinned := fun b o h => hk b o h.1
    pL := fun o h => Nat.lt_irrefl _ (Heap.lt_size h.1)
    p53 := fun o h => h.2 rfl
    ro := fun p hp => by
      rcases List.mem_cons.mp hp with rfl | hp
      · exact ⟨ht, hi_ne G.size⟩
      · exact ⟨k₁ _ _ (hro p hp).1, (hro p hp).2⟩
    own := fun p hp => nomatch hp
    nwA := fun p hp => nomatch hp
    ord := List.Pairwise.nil
    gens := gb
    os := rfl
    tk := Nat.le_add_right_of_le htk
    b53 := T53.of_tab G.tab fun o e => hk _ o (k₁ _ _ e) }
  refine wpAny_mono ((h w _ _ (s.os, s.heap) R.deeper G₁.size _).use S) (fun fl s' hq => ?_) fun _ _ x => x.elim
  obtain ⟨vs', nw', S', nw'', hsub, hp⟩ := hq
  have S'' := S'.drop hsub
  refine ⟨_, nw'', rfl, ⟨?_, S''.gr, fun b o hb e => S''.pinned b o ⟨k₁ b o e, hb⟩, fun p hp => ⟨S''.own p hp, ?_⟩, S''.ord, S''.gens, S''.os, S''.b53⟩⟩
  · cases fl <;> exact hp
  · have := (S''.nwA p hp).1
    exact Nat.le_of_lt (Nat.lt_of_le_of_lt (by show s.heap.objs.size ≤ (s.heap.push (tupOf rest)).objs.size; omega) this)

theorem bind_rest {fd : FuncData} {as : List Value} {x : Str} {a : Arg} (h1 : fd.params.posonlyargs = []) (h2 : fd.params.args = []) (h3 : fd.params.kwonlyargs = []) (h4 : fd.params.kwarg = none) (h5 : fd.params.vararg = some a) (h6 : a.arg = x) (hd : fd.defaults = .none) :
    bindArgs fd ⟨as, []⟩ = (newTuple as >>= fun t => pure [(x, t)]) := by
  unfold bindArgs
  simp only [h1, h2, h3, h4, h5, hd, List.map_nil, List.append_nil, List.zip_nil_left, List.length_nil, Option.isNone_some, Bool.and_false]
  subst h6
  rfl

noncomputable def D_platform : Fd := mkFd 58 ["args", "platform", "cleaned"] [("filter", .type "filter"), ("len", .builtin "len")] (by intro w; kernel_rfl)
theorem platBind (w : World) (as : List Value) : bindArgs (D_platform.fd w) ⟨as, []⟩ = (newTuple as >>= fun t => pure ((D_platform.ks.take (([] : List Value).length + 1)).zip (([] : List Value) ++ [t]))) :=
  bind_rest (a := ((D_platform.fd w).params.vararg.getD default)) (by kernel_rfl) (by kernel_rfl) (by kernel_rfl) (by kernel_rfl) (by kernel_rfl) (by kernel_rfl) (by kernel_rfl)

theorem repl_le {y z : List Nat} (hz : z.length ≤ y.length) : ∀ (n : Nat) (l : List Nat), (repl y z n l).length ≤ l.length
  | 0, l => Nat.le_refl _
  | n + 1, [] => Nat.le_refl _
  | n + 1, c :: r => by
    have h1 := repl_le hz n ((c :: r).drop y.length)
    have h2 := repl_le hz n r
    simp only [repl]
    split
    · rename_i hp
      rw [List.isPrefixOf_iff_prefix] at hp
      have := hp.length_le
      rw [List.length_append]
      rw [List.length_drop] at h1
      omega
    · simp only [List.length_cons]; omega
theorem replaceL_le {y z : List Nat} (hz : z.length ≤ y.length) (l : List Nat) : (replaceL y z l).length ≤ l.length := repl_le hz _ l

theorem do_Repl {c : Cx} {vs : Vs} {nw : Nw} {Q : Flow → Vs → Nw → Prop} (i j : Nat) (yl zl : List Nat) {x x' y z : Str} {a : List Nat} {t : Tok} {p p1 ap p2 p3 p4 p5 : Pos} {k1 k2 : Nat} {rest : List Stmt} (hk : c.ks[i]? = some x) (hj : c.ks[j]? = some x') (hv : vs[i]? = some (some (.str (S a) t))) (ha : a.length ≤ 1048576)
    (hy : y = S yl) (hz : z = S zl) (hne : yl ≠ []) (hyz : yl ≠ zl) (hzl : zl.length ≤ 14) (h : ∀ t', Do c (execs rest c.env) Q (vs.set j (some (.str (S (replaceL yl zl a)) t'))) nw)
    (hs : swapsWith (.Call (.Attribute (.Name x p1) "replace" ap) [.Constant (.str y) k1 p2, .Constant (.str z) k2 p3] [] p4) (some (.Name x' p)) p5.line c.env = pure false := by rfl) (hb : attributeBase (.Name x p1) "replace" c.env (eval (.Name x p1) c.env) = eval (.Name x p1) c.env := by rfl) (hline : (ap.endLine == p4.line) = true := by rfl) :
    Do c (execs (.Assign [.Name x' p] (.Call (.Attribute (.Name x p1) "replace" ap) [.Constant (.str y) k1 p2, .Constant (.str z) k2 p3] [] p4) p5 :: rest) c.env) Q vs nw := by
  subst hy hz
  refine do_cons (do_Assign hj ?_ hs)
  refine do_Meth F.plainAttrs_str F.slot_str_replace F.type_str_replace ?_ hb rfl hline
  refine do_loc i hk hv ⟨.str, ?_⟩
  exact do_replArgs fun u v hu hv huv => m_replace hu hv huv hne hyz ha hzl h

theorem do_ForeverTest {c : Cx} {vs : Vs} {nw : Nw} {k : Nat} {pos : Pos} {P : Bool → Vs → Nw → Prop} (h : P true vs nw) : Do c (isTrue (.Constant (.bool true) k pos) c.env (eval (.Constant (.bool true) k pos) c.env)) P vs nw := tr_val (do_bool (truthy_bool h))

noncomputable def mapD (l : List Nat) : List Nat := replaceL [41] [45] (replaceL [40] [45] (replaceL [34] [45] (replaceL [59] [45] (replaceL [58] [45] (replaceL [92] [45] (replaceL [47] [45] (replaceL [32] [95] l)))))))
noncomputable def plat0 (ts : List (List Nat)) : List Nat := replaceL unk [] (mapD (joinL [45] ((ts.filter ne0).map (trim Unicode.isSpace))))

/-- the same tokens, of the same signs -/
structure SameTk (l0 l : List Nat) : Prop where
  tk : tk l = tk l0
  mem : ∀ x ∈ l, x ∈ l0
  len : l.length ≤ l0.length
theorem SameTk.refl (l : List Nat) : SameTk l l := ⟨rfl, fun _ h => h, Nat.le_refl _⟩
theorem SameTk.trans {a b c : List Nat} (h : SameTk a b) (h' : SameTk b c) : SameTk a c := ⟨h'.tk.trans h.tk, fun x hx => h.mem x (h'.mem x hx), Nat.le_trans h'.len h.len⟩

theorem dash_sep : isSep 45 = true := rfl
theorem dd_tk : ∀ (n : Nat) (l : List Nat), l.length ≤ n → ∀ u, tk (u ++ replaceL [45, 45] [45] l) = tk (u ++ l)
  | _, [], _, u => rfl
  | 0, _ :: _, h, _ => by simp at h
  | n + 1, c :: r, h, u => by
    by_cases hp : [45, 45] <+: c :: r
    · obtain ⟨r', hr⟩ := hp
      simp only [List.cons_append, List.nil_append] at hr
      rw [← hr, show 45 :: 45 :: r' = [45, 45] ++ r' from rfl, replaceL_hit (by decide)]
      have hl : r'.length ≤ n := by
        have := congrArg List.length hr
        simp at this h
        omega
      have ih := dd_tk n r' hl []
      simp only [List.nil_append] at ih
      rw [show [45] ++ replaceL [45, 45] [45] r' = 45 :: replaceL [45, 45] [45] r' from rfl, tk_app dash_sep, ih, show [45, 45] ++ r' = 45 :: 45 :: r' from rfl, tk_app dash_sep, tk_sep (c := 45) rfl rfl]
    · rw [replaceL_miss (by decide) hp]
      have ih := dd_tk n r (by simpa using h) (u ++ [c])
      simpa using ih
theorem dd_mem : ∀ (n : Nat) (l : List Nat), ∀ x ∈ repl [45, 45] [45] n l, x ∈ l
  | 0, l, x, h => h
  | n + 1, [], x, h => h
  | n + 1, c :: r, x, h => by
    simp only [repl] at h
    split at h
    · rename_i hp
      rw [List.isPrefixOf_iff_prefix] at hp
      rcases List.mem_append.mp h with h | h
      · exact hp.subset (by simp at h; simp [h])
      · exact List.mem_of_mem_drop (dd_mem n _ x h)
    · rcases List.mem_cons.mp h with rfl | h
      · exact .head _
      · exact .tail _ (dd_mem n r x h)
theorem dd_same (l : List Nat) : SameTk l (replaceL [45, 45] [45] l) := ⟨by simpa using dd_tk _ l (Nat.le_refl _) [], dd_mem _ l, replaceL_le (by decide) l⟩
theorem dd_less : ∀ (n : Nat) (l : List Nat), repl [45, 45] [45] n l = l ∨ (repl [45, 45] [45] n l).length < l.length
  | 0, l => .inl rfl
  | n + 1, [] => .inl rfl
  | n + 1, c :: r => by
    simp only [repl]
    split
    · rename_i hp
      rw [List.isPrefixOf_iff_prefix] at hp
      have h1 := repl_le (y := [45, 45]) (z := [45]) (by decide) n ((c :: r).drop [45, 45].length)
      have h2 := hp.length_le
      rw [List.length_drop] at h1
      right
      simp only [List.length_append, List.length_cons, List.length_nil] at h1 h2 ⊢
      omega
    · rcases dd_less n r with h | h
      · exact .inl (by rw [h])
      · exact .inr (by simp only [List.length_cons]; omega)
theorem drop_same {l : List Nat} (h : l.getLast? = some 45) : SameTk l l.dropLast := by
  have hne : l ≠ [] := by rintro rfl; cases h
  have e : l = l.dropLast ++ [45] := by
    conv => lhs; rw [← List.dropLast_concat_getLast hne]
    rw [List.getLast?_eq_some_getLast hne] at h
    rw [Option.some.inj h]
  refine ⟨?_, fun x hx => (List.dropLast_sublist l).subset hx, by rw [List.length_dropLast]; omega⟩
  conv => rhs; rw [e]
  rw [show l.dropLast ++ [45] = l.dropLast ++ 45 :: [] from rfl, tk_app dash_sep, tk_nil, List.append_nil]

theorem wt_trimmedW (ts : List (List Nat)) : wt ((ts.filter ne0).map (trim Unicode.isSpace)) ≤ wt ts := by
  induction ts with
  | nil => exact Nat.le_refl _
  | cons a l ih =>
    have h1 := trim_le Unicode.isSpace a
    rw [show a :: l = [a] ++ l from rfl, List.filter_append, List.map_append, wt_app, wt_app, wt_one]
    cases h : ne0 a
    · simp only [List.filter_cons, h, Bool.false_eq_true, if_false, List.filter_nil, List.map_nil]
      rw [show wt [] = 0 from rfl]
      omega
    · simp only [List.filter_cons, h, if_true, List.filter_nil, List.map_cons, List.map_nil, wt_one]
      omega
noncomputable def isPlat (ts : List (List Nat)) (v : Value) (nw : Nw) : Prop := ∃ l, SameTk (plat0 ts) l ∧ isStr l v nw
noncomputable def plI (tp : Addr) (l0 : List Nat) (n : Nat) (vs : Vs) (nw : Nw) : Prop := ∃ l t x, vs = [some (.ref tp), some (.str (S l) t), x] ∧ nw = [] ∧ l.length ≤ n ∧ SameTk l0 l

theorem fn_platform (as : List Value) (ts : List (List Nat)) (hx : Txs as ts) (hw : wt ts ≤ 100000) : Fn 58 1 as [] (isPlat ts) := by
  refine Fn.ofV D_platform (m := 2) (by rw [sizeLine_eq, hx.len]; have := wt_len ts; omega) rfl (fun w => platBind w as) fun w A L os rm low tp => ?_
  have h0 : (joinL [45] ((ts.filter ne0).map (trim Unicode.isSpace))).length ≤ 100000 := by
    have h1 := wt_trimmedW ts
    exact Nat.le_trans (joinL_len _ _ rfl) (Nat.le_trans h1 hw)
  have le1 : ∀ (y : Nat) (z : Nat) {l : List Nat}, l.length ≤ 100000 → (replaceL [y] [z] l).length ≤ 100000 := fun y z l h => Nat.le_trans (replaceL_le (y := [y]) (z := [z]) (Nat.le_refl 1) l) h
  refine do_cons ?_
  refine do_Assign (i := 1) rfl ?_
  refine do_joinStrip (i := 0) (fi := 0) (li := 1) (by show (D_platform.fd w).code = _; kernel_rfl) ⟨rfl, by decide, rfl, rfl, rfl⟩ rfl rfl rfl rfl rfl (.inr (.head _)) hx hw rfl rfl fun t => ?_
  refine do_Repl 1 1 [32] [95] rfl rfl rfl (by omega) (by decide +kernel) (by decide +kernel) (by decide) (by decide) (by decide) fun _ => ?_
  refine do_Repl 1 1 [47] [45] rfl rfl rfl (Nat.le_trans (le1 _ _ h0) (by decide)) (by decide +kernel) (by decide +kernel) (by decide) (by decide) (by decide) fun _ => ?_
  refine do_Repl 1 1 [92] [45] rfl rfl rfl (Nat.le_trans (le1 _ _ (le1 _ _ h0)) (by decide)) (by decide +kernel) (by decide +kernel) (by decide) (by decide) (by decide) fun _ => ?_
  refine do_Repl 1 1 [58] [45] rfl rfl rfl (Nat.le_trans (le1 _ _ (le1 _ _ (le1 _ _ h0))) (by decide)) (by decide +kernel) (by decide +kernel) (by decide) (by decide) (by decide) fun _ => ?_
  refine do_Repl 1 1 [59] [45] rfl rfl rfl (Nat.le_trans (le1 _ _ (le1 _ _ (le1 _ _ (le1 _ _ h0)))) (by decide)) (by decide +kernel) (by decide +kernel) (by decide) (by decide) (by decide) fun _ => ?_
  refine do_Repl 1 1 [34] [45] rfl rfl rfl (Nat.le_trans (le1 _ _ (le1 _ _ (le1 _ _ (le1 _ _ (le1 _ _ h0))))) (by decide)) (by decide +kernel) (by decide +kernel) (by decide) (by decide) (by decide) fun _ => ?_
  refine do_Repl 1 1 [40] [45] rfl rfl rfl (Nat.le_trans (le1 _ _ (le1 _ _ (le1 _ _ (le1 _ _ (le1 _ _ (le1 _ _ h0)))))) (by decide)) (by decide +kernel) (by decide +kernel) (by decide) (by decide) (by decide) fun _ => ?_
  refine do_Repl 1 1 [41] [45] rfl rfl rfl (Nat.le_trans (le1 _ _ (le1 _ _ (le1 _ _ (le1 _ _ (le1 _ _ (le1 _ _ (le1 _ _ h0))))))) (by decide)) (by decide +kernel) (by decide +kernel) (by decide) (by decide) (by decide) fun _ => ?_
  have h8 : (mapD (joinL [45] ((ts.filter ne0).map (trim Unicode.isSpace)))).length ≤ 100000 := le1 _ _ (le1 _ _ (le1 _ _ (le1 _ _ (le1 _ _ (le1 _ _ (le1 _ _ (le1 _ _ h0)))))))
  refine do_Repl 1 1 unk [] rfl rfl rfl (Nat.le_trans h8 (by decide)) (by decide +kernel) (by decide +kernel) (by decide) (by decide) (by decide) fun t9 => ?_
  have h9 : (plat0 ts).length ≤ 100000 := Nat.le_trans (replaceL_le (by decide) _) h8
  refine Do.mono (Q := fun fl _ nw => ∃ nw', nw'.Sublist nw ∧ isPlat ts (retOf fl) nw') (show Do _ _ _ [some (.ref tp), some (.str (S (plat0 ts)) t9), none] [] from ?_) fun _ _ _ q => q
  obtain ⟨l0, hl0⟩ : ∃ l0, plat0 ts = l0 := ⟨_, rfl⟩
  rw [hl0] at h9 ⊢
  refine do_thenQ (fun vs nw => ∃ n, plI tp l0 n vs nw) ?_ ?_
  · refine do_While (plI tp l0) l0.length ⟨l0, t9, none, rfl, rfl, Nat.le_refl _, SameTk.refl _⟩ ?_
    rintro n vs nw ⟨l, t, x, rfl, rfl, hn, hs⟩
    have hl : l.length ≤ 1048576 := Nat.le_trans hs.len (Nat.le_trans h9 (by decide))
    refine do_ForeverTest ⟨fun _ => ?_, fun h => (nomatch h)⟩
    refine do_Repl 1 2 [45, 45] [45] rfl rfl rfl hl (by decide +kernel) (by decide +kernel) (by decide) (by decide) (by decide) fun _ => ?_
    refine do_cons ?_
    refine do_If ?_
    refine tr_Compare ?_
    refine do_loc 2 rfl rfl ?_
    refine do_loc 1 rfl rfl ?_
    refine eq_ss ⟨_, rfl, fun hT => ?_, fun hF => ?_⟩
    · refine do_cons ?_
      refine do_Break ?_
      exact ⟨n, l, _, _, rfl, rfl, hn, hs⟩
    · refine do_nil ?_
      refine do_cons ?_
      refine do_Assign (i := 1) rfl ?_
      refine do_loc 2 rfl rfl ?_
      refine do_nil ?_
      have hlt : (replaceL [45, 45] [45] l).length < l.length := (show replaceL [45, 45] [45] l = l ∨ _ from dd_less _ l).resolve_left (by simpa using hF)
      exact ⟨(replaceL [45, 45] [45] l).length, by omega, _, _, _, rfl, rfl, Nat.le_refl _, hs.trans (dd_same l)⟩
  · rintro vs nw ⟨n, l, t, x, rfl, rfl, hn, hs⟩
    refine do_thenQ (fun vs nw => ∃ n, plI tp l0 n vs nw) ?_ ?_
    · refine do_While (plI tp l0) n ⟨l, t, x, rfl, rfl, hn, hs⟩ ?_
      rintro n vs nw ⟨l, t, x, rfl, rfl, hn, hs⟩
      have hl : l.length ≤ 100000 := Nat.le_trans hs.len h9
      refine tr_BoolOp ?_
      refine tr_and ?_
      refine tr_val ?_
      refine do_loc 1 rfl rfl ?_
      refine truthy_s (by omega) ⟨fun hT => ?_, fun hF => ⟨fun h => (nomatch h), fun _ => ⟨n, l, _, _, rfl, rfl, hn, hs⟩⟩⟩
      have hne : l ≠ [] := by simpa using hT
      refine tr_and ?_
      refine tr_Compare ?_
      refine do_Sub ?_
      refine do_loc 1 rfl rfl ?_
      refine do_UnaryOp ?_
      refine do_int fun _ => ?_
      refine neg_i fun _ => ?_
      refine item_s_last (List.getLast?_eq_some_getLast hne) (by omega) fun _ => ?_
      refine do_S [45] (by decide +kernel) fun _ => ?_
      refine eq_ss ⟨_, rfl, fun hT => tr_and0 ⟨fun _ => ?_, fun h => (nomatch h)⟩, fun hF => ⟨fun h => (nomatch h), fun _ => ⟨n, l, _, _, rfl, rfl, hn, hs⟩⟩⟩
      have hlast : l.getLast? = some 45 := by
        rw [List.getLast?_eq_some_getLast hne]
        exact congrArg some (by simpa using hT)
      refine do_cons ?_
      refine do_Assign (i := 1) rfl ?_
      refine do_SliceS ?_
      refine do_loc 1 rfl rfl ?_
      refine do_part0 ?_
      refine do_part ?_
      refine do_UnaryOp ?_
      refine do_int fun _ => ?_
      refine neg_i fun _ => ?_
      refine ⟨_, _, none, some (_, _), rfl, rfl, rfl, by omega, fun _ => ?_⟩
      rw [show cutL l (Option.map (fun x : Int × Tok => x.1) none) (Option.map (fun x : Int × Tok => x.1) (some (-1, _))) = l.dropLast from cut_butlast l]
      refine do_nil ?_
      have hpos : 0 < l.length := List.length_pos_iff.mpr hne
      exact ⟨l.length - 1, by omega, _, _, _, rfl, rfl, by rw [List.length_dropLast]; exact Nat.le_refl _, hs.trans (drop_same hlast)⟩
    · rintro vs nw ⟨n, l, t, x, rfl, rfl, hn, hs⟩
      refine do_cons ?_
      refine do_Return ?_
      refine do_loc 1 rfl rfl ?_
      exact ⟨[], List.nil_sublist _, l, by rw [hl0]; exact hs, ⟨t, rfl⟩, rfl⟩
end Mine
end

section
open PySem PySem.W PySem.Calls PySem.Spec PyProof.Rows PySem.SeqAt
set_option maxRecDepth 100000
set_option linter.unusedVariables false
namespace Mine

section
variable {c : Cx} {pin : Pin} {vs : Vs} {nw : Nw} {s : Shared}
/-- an address that nothing of the state lies at -/
structure Out (c : Cx) (pin : Pin) (nw : Nw) (b : Addr) : Prop where
  l : b ≠ c.env.locals
  n : 261 ≤ b
  p : ∀ o, ¬ pin b o
  w : ∀ p ∈ nw, p.1 ≠ b
theorem St.out (S : St c pin vs nw s) {h' : Heap} {tk : Nat} {wr : List Addr} (hk : ∀ b o, b ∉ wr → s.heap.get? b = some o → h'.get? b = some o) (hw : ∀ b ∈ wr, Out c pin nw b) (ht : 1 ≤ tk) : St c pin vs nw { s with heap := h', toks := tk } where
  gr := S.gr.ext fun b o hb e => hk b o (fun hm => Nat.lt_irrefl _ (Nat.lt_of_lt_of_le hb (hw b hm).n)) e
  ns := S.ns.at' fun o e => hk _ o (fun hm => (hw _ hm).l rfl) e
  len := S.len
  pinned := fun b o h => hk b o (fun hm => (hw b hm).p o h) (S.pinned b o h)
  pL := S.pL
  p53 := S.p53
  ro := S.ro
  own := fun p hp => hk _ _ (fun hm => (hw _ hm).w p hp rfl) (S.own p hp)
  nwA := S.nwA
  ord := S.ord
  gens := S.gens
  os := S.os
  tk := ht
  b53 := S.b53.step fun o e => hk _ o (fun hm => Nat.lt_irrefl _ (Nat.lt_of_lt_of_le (show 53 < 261 by decide) (hw _ hm).n)) e

/-- a body that fills the list at D -/
structure DoA (c : Cx) (D : Addr) (body : Sem Unit) (J : Vs → Nw → List Value → Prop) (vs : Vs) (nw : Nw) (xs : List Value) : Prop where
  run : ∀ pin s n, St c pin vs nw s → s.heap.get? D = some (lstOf xs n) → Out c pin nw D →
    wpAny (MM c.w) c.A body (fun _ s' => 1 ≤ s'.toks → ∃ vs' nw' xs' n', St c pin vs' nw' s' ∧ s'.heap.get? D = some (lstOf xs' n') ∧ (∀ p ∈ nw', p.1 ≠ D) ∧ J vs' nw' xs') (fun _ _ => False) s
theorem DoA.use {D : Addr} {body : Sem Unit} {J : Vs → Nw → List Value → Prop} {xs : List Value} {n : Nat} (h : DoA c D body J vs nw xs) (S : St c pin vs nw s) (hD : s.heap.get? D = some (lstOf xs n)) (ho : Out c pin nw D) :
    wpAny (MM c.w) c.A body (fun _ s' => ∃ vs' nw' xs' n', St c pin vs' nw' s' ∧ s'.heap.get? D = some (lstOf xs' n') ∧ (∀ p ∈ nw', p.1 ≠ D) ∧ J vs' nw' xs') (fun _ _ => False) s :=
  wpAny_with_toks S.tk (wpAny_mono (h.run pin s n S hD ho) (fun _ _ x => x) fun _ _ x => x.elim)

/-- the item is put behind the list -/
theorem doa_emit {D : Addr} {elt : Expr} {J : Vs → Nw → List Value → Prop} {xs : List Value} (hsz : xs.length ≤ 16777216) (h : Do c (eval elt c.env) (fun v vs nw => J vs nw (xs ++ [v])) vs nw) :
    DoA c D (do let _ ← call (.builtin "list.append") [.ref D, ← eval elt c.env]) J vs nw xs := DoA.mk fun pin s n S hD ho => by
  have S' : St c (fun b o => pin b o ∨ (b = D ∧ o = lstOf xs n)) vs nw s := S.pinMore (fun b o q => by
    rcases q with q | ⟨rfl, rfl⟩
    · exact .inl q
    · exact .inr ⟨hD, ho.l, hi_ne ho.n, ho.w⟩) fun b o q => .inl q
  refine wpAny_bind (wpAny_mono (h.use S') (fun v s₁ h₁ => ?_) fun _ _ x => x)
  obtain ⟨vs₁, nw₁, S₁, hJ⟩ := h₁
  have hD₁ := S₁.pinned D _ (.inr ⟨rfl, rfl⟩)
  have hw₁ : ∀ p ∈ nw₁, p.1 ≠ D := fun p hp e => (S₁.nwA p hp).2 (lstOf xs n) (.inr ⟨e, rfl⟩)
  have S₂ : St c pin vs₁ nw₁ s₁ := S₁.pinLess (fun b o q => .inl q) S.ro
  refine wpAny_bind (append_at hD₁ (fun h' hs hO => wpAny_pure fun ht => ?_) (by rw [szl]; simpa using hsz))
  refine ⟨vs₁, nw₁, xs ++ [v], n + 1, S₂.out (wr := [D]) (fun b o hb e => hs.extBut b o (by simpa using hb) e) (fun b hb => ?_) ht, by rw [hO]; simp, hw₁, hJ⟩
  rw [List.mem_singleton.mp hb]
  exact ⟨ho.l, ho.n, ho.p, hw₁⟩

/-- the turns of a comprehension's clause -/
theorem comp_turns {D : Addr} {e : Expr} {d : Nat} {x : Str} {px p : Pos} {i : Nat} {body : Sem Unit} {n : Nat} {P : Nat → Value → Prop} {a : Addr} {fp wr : List Addr} {St₀ : Nat → Heap → Prop} (hx : c.ks[i]? = some x) (W : Walks PR c.w c.A a fp wr n P St₀) (ext : Nw) (I : Nat → Vs → Nw → List Value → Prop)
    (hfr : (Code.compLoop e d (.ref a) (.ref D) c.env).isFrame = false) (hpl : (Code.compLoop e d (.ref a) (.ref D) c.env).quiet = true) (hun : c.A.under (.compLoop e d (.ref a) (.ref D) c.env) = c.A)
    (hturn : compTurn e d (.ref a) (.ref D) c.env = (standAt p >>= fun _ => pyNext (.ref a) >>= fun r => match r with
      | none => pure (.done .next)
      | some v => assign (.Name x px) c.env v >>= fun _ => body >>= fun _ => again (.compLoop e d (.ref a) (.ref D) c.env)))
    (hext : ∀ k vs nw xs, I k vs nw xs → ∀ p ∈ ext, Has c nw p.1 p.2) (hfp : ∀ b ∈ fp, b ∈ wr ∨ ∃ o, (b, o) ∈ ext) (hex : ∀ k h, St₀ k h → ∀ b ∈ wr, ∃ o, h.get? b = some o) (hDw : D ∉ wr)
    (turn : ∀ k v vs nw xs, k < n → P k v → I k vs nw xs → DoA c D body (I (k + 1)) (vs.set i (some v)) nw xs) :
    ∀ (pin : Pin) (s : Shared) (vs : Vs) (nw : Nw) (xs : List Value) (m : Nat), St c pin vs nw s → s.heap.get? D = some (lstOf xs m) → Out c pin nw D → (∀ b ∈ wr, Out c pin nw b) → St₀ 0 s.heap → I 0 vs nw xs →
      codeAny (MM c.w) c.A (.compLoop e d (.ref a) (.ref D) c.env) (fun r s' => r = .ok .next ∧ ∃ vs' nw' xs' m', St c pin vs' nw' s' ∧ s'.heap.get? D = some (lstOf xs' m') ∧ (∀ p ∈ nw', p.1 ≠ D) ∧ I n vs' nw' xs') s := by
  intro pin s vs nw xs m S hD hDo hwo st0 I0
  refine codeAny_loop hpl (fun t s' => ∃ k vs nw xs m, t = n + 1 - k ∧ k ≤ n ∧ St c pin vs nw s' ∧ s'.heap.get? D = some (lstOf xs m) ∧ Out c pin nw D ∧ (∀ b ∈ wr, Out c pin nw b) ∧ St₀ k s'.heap ∧ I k vs nw xs) ?_ (n + 1) ⟨0, vs, nw, xs, m, rfl, Nat.zero_le _, S, hD, hDo, hwo, st0, I0⟩
  rintro t s' ⟨k, vs₁, nw₁, xs₁, m₁, rfl, hkn, S₁, hD₁, hDo₁, hwo₁, st₁, I₁⟩
  rw [hun]
  show wpAny _ _ (if (Code.compLoop e d (.ref a) (.ref D) c.env).isFrame then _ else (compTurn e d (.ref a) (.ref D) c.env).onRaise _) _ _ _
  rw [hfr, if_neg (by decide), hturn]
  refine wpAny_noted (wpAny_bind (wpAny_standAt (wpAny_bind ?_)))
  by_cases hlt : k < n
  · refine wpAny_with_toks S₁.tk (W.item k s' _ _ hlt st₁ fun v h₂ tk₂ hv st₂ hk₂ ht₂ => ?_)
    have S₂ : St c pin vs₁ nw₁ { s' with heap := h₂, toks := tk₂ } := S₁.out hk₂ hwo₁ ht₂
    have hD₂ := hk₂ _ _ hDw hD₁
    let pin₂ : Pin := fun b o => pin b o ∨ (b ∈ wr ∧ h₂.get? b = some o)
    have S₂' : St c pin₂ vs₁ nw₁ { s' with heap := h₂, toks := tk₂ } := S₂.pinMore (fun b o q => by
      rcases q with q | ⟨q1, q2⟩
      · exact .inl q
      · exact .inr ⟨q2, (hwo₁ b q1).l, hi_ne (hwo₁ b q1).n, (hwo₁ b q1).w⟩) fun b o q => .inl q
    have S₂D : St c (fun b o => pin₂ b o ∨ (b = D ∧ o = lstOf xs₁ m₁)) vs₁ nw₁ { s' with heap := h₂, toks := tk₂ } := S₂'.pinMore (fun b o q => by
      rcases q with q | ⟨rfl, rfl⟩
      · exact .inl q
      · exact .inr ⟨hD₂, hDo₁.l, hi_ne hDo₁.n, hDo₁.w⟩) fun b o q => .inl q
    refine wpAny_bind (wpAny_mono ((do_assignName (v := v) (R := fun _ vs' nw' => vs' = vs₁.set i (some v) ∧ nw' = nw₁) hx ⟨rfl, rfl⟩).use S₂D) (fun _ s₃ h₃ => ?_) fun _ _ x => x.elim)
    obtain ⟨vs', nw', S₃, e1, e2⟩ := h₃
    rw [e1, e2] at S₃
    have hD₃ := S₃.pinned D _ (.inr ⟨rfl, rfl⟩)
    have S₃' : St c pin₂ (vs₁.set i (some v)) nw₁ s₃ := S₃.pinLess (fun b o q => .inl q) fun p hp => .inl (S₁.ro p hp)
    have hDo₃ : Out c pin₂ nw₁ D := ⟨hDo₁.l, hDo₁.n, fun o q => q.elim (hDo₁.p o) fun q => hDw q.1, hDo₁.w⟩
    refine wpAny_bind (wpAny_mono ((turn k v vs₁ nw₁ xs₁ hlt hv I₁).use S₃' hD₃ hDo₃) (fun _ s₄ h₄ => ?_) fun _ _ x => x.elim)
    obtain ⟨vs₄, nw₄, xs₄, m₄, S₄, hD₄, hw₄, I₄⟩ := h₄
    have S₅ : St c pin vs₄ nw₄ s₄ := S₄.pinLess (fun b o q => .inl q) S₁.ro
    refine wpAny_pure ⟨rfl, n + 1 - (k + 1), by omega, k + 1, vs₄, nw₄, xs₄, m₄, rfl, hlt, S₅, hD₄, ⟨hDo₁.l, hDo₁.n, hDo₁.p, hw₄⟩, fun b hb => ⟨(hwo₁ b hb).l, (hwo₁ b hb).n, (hwo₁ b hb).p, fun p hp e => ?_⟩, W.frame _ _ _ st₂ fun b hb o e => ?_, I₄⟩
    · obtain ⟨o, hq⟩ := hex _ _ st₂ b hb
      exact (S₄.nwA p hp).2 o (e ▸ .inr ⟨hb, hq⟩)
    · rcases hfp b hb with hm | ⟨o', ho'⟩
      · exact S₄.pinned b o (.inr ⟨hm, e⟩)
      · have g1 := (S₂.get (hext k vs₁ nw₁ xs₁ I₁ _ ho')).1
        have g2 := (S₅.get (hext (k + 1) vs₄ nw₄ xs₄ I₄ _ ho')).1
        have : o = o' := Option.some.inj (e.symm.trans g1)
        rw [this]; exact g2
  · have hkn' : k = n := by omega
    subst hkn'
    refine wpAny_with_toks S₁.tk (W.done s' _ _ st₁ fun h₂ tk₂ hk₂ ht₂ => ?_)
    exact wpAny_pure ⟨rfl, vs₁, nw₁, xs₁, m₁, S₁.out hk₂ hwo₁ ht₂, hk₂ _ _ hDw hD₁, hDo₁.w, I₁⟩

/-- a clause starts: by the iterator itself, or by its iterator, which it is -/
theorem comp_start {e : Expr} {d : Nat} {acc : Value} {a : Addr} {R : Result → Shared → Prop} {s : Shared} (hfr : (Code.compStart e d (.ref a) acc c.env).isFrame = false) (hun : c.A.under (.compStart e d (.ref a) acc c.env) = c.A) (has : ((clausesOf e)[d]?).elim false (·.is_async != 0) = false)
    (hq : (Code.compLoop e d (.ref a) acc c.env).quiet = true) (hself : ∀ (Q : Value → Shared → Prop) (E : Value → Shared → Prop), Q (.ref a) s → wpAny (MM c.w) c.A (pyIter (.ref a)) Q E s) (h : codeAny (MM c.w) c.A (.compLoop e d (.ref a) acc c.env) R s) :
    codeAny (MM c.w) c.A (.compStart e d (.ref a) acc c.env) R s := by
  refine codeAny_of_tree ?_
  rw [hun]
  show wpAny _ _ (if (Code.compStart e d (.ref a) acc c.env).isFrame then _ else (compStart e d (.ref a) acc c.env).onRaise _) _ _ s
  rw [hfr, if_neg (by decide)]
  refine wpAny_notedAt ?_
  unfold compStart
  rw [has, if_neg (by decide)]
  show wpAny _ _ (ask >>= _) _ _ s
  refine wpAny_bind (wpAny_askSetting ?_)
  split
  · exact wpAny_pure (And.intro hq h)
  · refine wpAny_bind (wpAny_rule ?_)
    cases (clausesOf e)[d]? with
    | none => exact wpAny_bind (hself _ _ (wpAny_pure ⟨hq, h⟩))
    | some g => exact wpAny_bind (wpAny_standAt (wpAny_bind (hself _ _ (wpAny_pure ⟨hq, h⟩))))
end

/-- the context of a comprehension within a def -/
noncomputable def Cx.comp (c : Cx) (scope : Scope) (cl : List (Str × Addr)) (ks : List Str) (gs : List (Str × Value)) (ro : Nw) (hk : scope.kind = .function) (nd : ks.Nodup)
    (loc : ∀ x ∈ ks, (relabel scope c.env).names.lookup x = some .local ∧ (x == ("__debug__" : Str)) = false)
    (glo : ∀ p ∈ gs, (relabel scope c.env).names.lookup p.1 = some .globalImplicit ∧ (p.1 == ("__debug__" : Str)) = false ∧ GlobIs c.w p.1 p.2) (C : Addr) (low : 261 ≤ C) : Cx where
  w := c.w
  A := c.A
  env := compEnvC scope cl C c.env
  ks := ks
  gs := gs
  ro := ro
  os := c.os
  lev := c.lev
  rm := c.rm
  hk := hk
  nd := nd
  loc := loc
  glo := glo
  hg := c.hg
  hb := c.hb
  low := low

/-- a source of items: its iterator is new -/
structure Src (c : Cx) (s₁ : Shared) (xv : Value) (ext : Nw) (n : Nat) (P : Nat → Value → Prop) : Prop where
  run : wpAny (MM c.w) c.A (pyIter xv) (fun it s₂ => ∃ a fp wr St₀ h' tk, it = .ref a ∧ s₂ = { s₁ with heap := h', toks := tk } ∧ Walks PR c.w c.A a fp wr n P St₀ ∧ St₀ 0 h' ∧
      (∀ b o, s₁.heap.get? b = some o → h'.get? b = some o) ∧ (∀ b ∈ wr, s₁.heap.objs.size ≤ b ∧ b < h'.objs.size) ∧ (∀ b ∈ fp, b ∈ wr ∨ ∃ o, (b, o) ∈ ext) ∧ (∀ k h, St₀ k h → ∀ b ∈ wr, ∃ o, h.get? b = some o)) (fun _ _ => False) s₁

section
variable {c : Cx} {pin : Pin} {vs : Vs} {nw : Nw} {s₁ : Shared}
theorem comp_core {elt iter : Expr} {rest : List Comprehension} {x : Str} {px p pos : Pos} {scope : Scope} {cl : List (Str × Addr)} {ks : List Str} {gs : List (Str × Value)} {ro : Nw} {hk nd loc glo} {i : Nat} {n : Nat} {P : Nat → Value → Prop} {ext : Nw} {xv : Value} {E : Value → Shared → Prop}
    (hcell : ∀ y ∈ scope.names, y.2 ≠ .cell) (hx : ks[i]? = some x) (I : Cx → Nat → Vs → Nw → List Value → Prop) (body : Addr → Addr → Sem Unit) (S₁ : St c pin vs nw s₁) (hro : ∀ p ∈ ro, s₁.heap.get? p.1 = some p.2 ∧ p.1 ≠ 53) (hsrc : Src c s₁ xv ext n P)
    (hturn : ∀ C a D, compTurn (.ListComp elt (⟨.Name x px, iter, [], 0⟩ :: rest) scope pos) 0 (.ref a) (.ref D) (compEnvC scope cl C c.env) = (standAt p >>= fun _ => pyNext (.ref a) >>= fun r => match r with
      | none => pure (.done .next)
      | some v => assign (.Name x px) (compEnvC scope cl C c.env) v >>= fun _ => body C D >>= fun _ => again (.compLoop (.ListComp elt (⟨.Name x px, iter, [], 0⟩ :: rest) scope pos) 0 (.ref a) (.ref D) (compEnvC scope cl C c.env))))
    (hext : ∀ C low k vs nw xs, I (c.comp scope cl ks gs ro hk nd loc glo C low) k vs nw xs → ∀ p ∈ ext, Has (c.comp scope cl ks gs ro hk nd loc glo C low) nw p.1 p.2)
    (h0 : ∀ C low, I (c.comp scope cl ks gs ro hk nd loc glo C low) 0 (ks.map fun _ => none) [] [])
    (turn : ∀ C low D k v vs nw xs, k < n → P k v → I (c.comp scope cl ks gs ro hk nd loc glo C low) k vs nw xs → DoA (c.comp scope cl ks gs ro hk nd loc glo C low) D (body C D) (I (c.comp scope cl ks gs ro hk nd loc glo C low) (k + 1)) (vs.set i (some v)) nw xs)
    {Q : Value → Addr → Result → Shared → Prop}
    (hq : ∀ D C low vs' nw' xs m s', I (c.comp scope cl ks gs ro hk nd loc glo C low) n vs' nw' xs → St c pin vs ((D, lstOf xs m) :: nw) s' → (∃ mC, s'.heap.Ns C mC) → Out c pin ((D, lstOf xs m) :: nw) C → Q (.ref D) C (.ok .next) s') :
    wpAny (MM c.w) c.A (pyIter xv) (fun it s₂ => wpAny (MM c.w) c.A (newList []) (fun acc s₃ => wpAny (MM c.w) c.A (newFunctionEnv scope c.env.globals cl [] c.env.qual none .none (some c.env)) (fun cenv s₄ =>
      codeAny (MM c.w) c.A (.compStart (.ListComp elt (⟨.Name x px, iter, [], 0⟩ :: rest) scope pos) 0 it acc { cenv with scope := relabel scope c.env }) (Q acc cenv.locals) s₄) E s₃) E s₂) E s₁ := by
  refine wpAny_with_toks S₁.tk (wpAny_mono hsrc.run (fun it s₂ hh ht => ?_) fun _ _ x => x.elim)
  obtain ⟨a, fp, wr, St₀, h', tk, rfl, rfl, W, st0, hkp, hwr, hfp, hex⟩ := hh
  refine wpAny_newObj_type (wpAny_newFunctionEnv hcell (by intro y hy; simp at hy) (fun h₁ hns₁ hsb₁ => ?_) hk)
  dsimp only at hns₁ hsb₁ ⊢
  generalize hH2 : h'.push { cls := .type "list", dict := none, data := .seq ([] : List Value).toArray } = H2 at hns₁ hsb₁ ⊢
  have hC : H2.objs.size = h'.objs.size + 1 := by rw [← hH2, Heap.size_push]
  have S₁' := S₁.ext hkp ht
  have hsz : 261 ≤ h'.objs.size := S₁'.gr.size
  have low : 261 ≤ H2.objs.size := by omega
  have hCle : h'.objs.size ≤ H2.objs.size := by omega
  have hDC : h'.objs.size ≠ H2.objs.size := by omega
  have old : ∀ b o, h'.get? b = some o → h₁.get? b = some o := fun b o e => hsb₁.extBut b o (Nat.ne_of_lt (Nat.lt_of_lt_of_le (Heap.lt_size e) hCle)) (Heap.get?_push_of_some _ (hH2 ▸ Heap.get?_push_of_some _ e))
  have hD : h₁.get? h'.objs.size = some (lstOf [] 0) := hsb₁.extBut _ _ hDC (Heap.get?_push_of_some _ (hH2 ▸ Heap.get?_push_size _ rfl))
  have none1 : ∀ b o, h'.objs.size ≤ b → ¬ s₁.heap.get? b = some o := fun b o hb e => Nat.lt_irrefl _ (Nat.lt_of_lt_of_le (Heap.lt_size (hkp b o e)) hb)
  have hz : 261 ≤ s₁.heap.objs.size := S₁.gr.size
  have S₄ : St (c.comp scope cl ks gs ro hk nd loc glo H2.objs.size low) (fun b o => s₁.heap.get? b = some o ∧ b ≠ 53) (ks.map fun _ => none) [] { s₁ with heap := h₁, toks := tk + ([] : List (Str × Value)).length } := {
    gr := S₁'.gr.ext fun b o _ e => old b o e
    ns := by
      have e : (fun x : Str => ([] : List (Str × Value)).reverse.lookup x) = look ks (ks.map fun _ => none) := by
        funext y
        have : ∀ l : List Str, look l (l.map fun _ => none) y = none := by
          intro l
          induction l with
          | nil => rfl
          | cons k l ih =>
            simp only [look, List.map_cons, List.zip_cons_cons, List.lookup_cons]
            cases y == k with
            | true => rfl
            | false => exact ih
        rw [this]; rfl
      rw [e] at hns₁
      exact hns₁
    len := by simp; rfl
    pinned := fun b o h => old b o (hkp b o h.1)
    pL := fun o h => none1 _ o hCle h.1
    p53 := fun o h => h.2 rfl
    ro := fun p hp => hro p hp
    own := fun p hp => nomatch hp
    nwA := fun p hp => nomatch hp
    ord := List.Pairwise.nil
    gens := S₁.gens
    os := S₁.os
    tk := Nat.le_add_right_of_le ht
    b53 := S₁'.b53.step fun o e => old _ o e }
  have hDo : Out (c.comp scope cl ks gs ro hk nd loc glo H2.objs.size low) (fun b o => s₁.heap.get? b = some o ∧ b ≠ 53) [] h'.objs.size := ⟨hDC, hsz, fun o q => none1 _ o (Nat.le_refl _) q.1, fun p hp => nomatch hp⟩
  have hwo : ∀ b ∈ wr, Out (c.comp scope cl ks gs ro hk nd loc glo H2.objs.size low) (fun b o => s₁.heap.get? b = some o ∧ b ≠ 53) [] b := fun b hb =>
    ⟨Nat.ne_of_lt (Nat.lt_of_lt_of_le (hwr b hb).2 hCle), Nat.le_trans hz (hwr b hb).1, fun o q => Nat.lt_irrefl _ (Nat.lt_of_lt_of_le (Heap.lt_size q.1) (hwr b hb).1), fun p hp => nomatch hp⟩
  have st1 : St₀ 0 h₁ := W.frame _ _ _ st0 fun b _ o e => old b o e
  have hDw : h'.objs.size ∉ wr := fun hm => Nat.lt_irrefl _ (hwr _ hm).2
  have key := comp_turns (c := c.comp scope cl ks gs ro hk nd loc glo H2.objs.size low) (D := h'.objs.size) (body := body H2.objs.size h'.objs.size) hx W ext (I _) rfl rfl rfl (hturn H2.objs.size a h'.objs.size) (hext _ low) hfp hex hDw (turn _ low _) _ _ _ _ [] 0 S₄ hD hDo hwo st1 (h0 _ low)
  refine codeAny_mono (comp_start (c := c.comp scope cl ks gs ro hk nd loc glo H2.objs.size low) rfl rfl rfl rfl (fun Q E hQ => W.self 0 _ _ _ st1 hQ) key) (fun r s' hr => ?_)
  obtain ⟨rfl, vs', nw', xs', m', S', hD', hw', I'⟩ := hr
  have kp : ∀ b o, s₁.heap.get? b = some o → b ≠ 53 → s'.heap.get? b = some o := fun b o e hb => S'.pinned b o ⟨e, hb⟩
  have hLlt : c.env.locals < h'.objs.size := by
    obtain ⟨o, es, ep, ho, _⟩ := S₁'.ns
    exact Heap.lt_size ho
  have nwlt : ∀ p ∈ nw, p.1 < h'.objs.size := fun p hp => Heap.lt_size (S₁'.own p hp)
  refine hq h'.objs.size H2.objs.size low vs' nw' xs' m' s' I' ?_ ⟨_, S'.ns⟩ ⟨Nat.ne_of_gt (Nat.lt_of_lt_of_le hLlt hCle), low, fun o q => none1 _ o hCle (S₁.pinned _ _ q), fun p hp => ?_⟩
  · exact {
      gr := S'.gr
      ns := S₁.ns.at' fun o e => kp _ o e (hi_ne c.low)
      len := S₁.len
      pinned := fun b o h => kp b o (S₁.pinned b o h) (fun e => S₁.p53 o (e ▸ h))
      pL := S₁.pL
      p53 := S₁.p53
      ro := S₁.ro
      own := fun p hp => by
        rcases List.mem_cons.mp hp with rfl | hp
        · exact hD'
        · exact kp _ _ (S₁.own p hp) (hi_ne (Nat.le_trans c.low (Nat.le_of_lt (S₁.nwA p hp).1)))
      nwA := fun p hp => by
        rcases List.mem_cons.mp hp with rfl | hp
        · exact ⟨hLlt, fun o q => none1 _ o (Nat.le_refl _) (S₁.pinned _ _ q)⟩
        · exact S₁.nwA p hp
      ord := by
        rw [List.map_cons]
        refine List.Pairwise.cons (fun b hb => ?_) S₁.ord
        obtain ⟨p, hp, rfl⟩ := List.mem_map.mp hb
        exact nwlt p hp
      gens := S'.gens
      os := S'.os
      tk := S'.tk
      b53 := S'.b53 }
  · rcases List.mem_cons.mp hp with rfl | hp
    · exact hDC
    · exact Nat.ne_of_lt (Nat.lt_of_lt_of_le (nwlt p hp) hCle)
end
end Mine
end

section
open PySem PySem.W PySem.Calls PySem.Spec PyProof.Rows PySem.SeqAt
set_option maxRecDepth 100000
set_option linter.unusedVariables false
namespace Mine

noncomputable def flatP (ps : List (Int × (Int ⊕ List Nat))) : List (Int ⊕ List Nat) := ps.flatMap fun p => [.inl p.1, p.2]
noncomputable def isFlat (X : List (Int ⊕ List Nat)) (v : Value) (nw : Nw) : Prop := ∃ l xs n, v = .ref l ∧ nw = [(l, lstOf xs n)] ∧ Iss xs X
theorem flatP_snoc {ps : List (Int × (Int ⊕ List Nat))} {k : Nat} {p : Int × (Int ⊕ List Nat)} (h : ps[k]? = some p) : flatP (ps.take (k + 1)) = flatP (ps.take k) ++ [.inl p.1, p.2] := by
  unfold flatP
  rw [List.take_add_one, h, List.flatMap_append]
  simp

noncomputable def D_law_told : Fd := mkFd 232 ["texts"] [("_law_row", .ref 227), ("_law_safe", .ref 213)] (by intro w; kernel_rfl)

noncomputable def tdI (ps : List (Int × (Int ⊕ List Nat))) (c : Cx) (k : Nat) (vs : Vs) (nw : Nw) (ys : List Value) : Prop := ∃ x1 x2, vs = [x1, x2] ∧ nw = [] ∧ Iss ys (flatP (ps.take k)) ∧ ys.length ≤ 2 * k
noncomputable def tdJ (t : Addr) (ys0 items : List Value) (k : Nat) (vs : Vs) (nw : Nw) (ys : List Value) : Prop := ∃ x2, vs = [some (.ref t), x2] ∧ nw = [] ∧ ys = ys0 ++ items.take k

theorem src_list {c : Cx} {pin : Pin} {vs : Vs} {nw : Nw} {s : Shared} {l : Addr} {xs : List Value} {n : Nat} (S : St c pin vs nw s) (h : Has c nw l (lstOf xs n)) : Src c s (.ref l) [(l, lstOf xs n)] xs.toArray.size (fun i v => xs.toArray[i]? = some v) := by
  have hl := isL S h
  have hlt : l < s.heap.objs.size := Heap.lt_size (S.get h).1
  refine ⟨wpAny_pyIter_list hl ⟨_, [s.heap.objs.size, l], [s.heap.objs.size], _, _, _, rfl, rfl, Walks.list c.hh s.heap.objs.size l (Nat.ne_of_lt hlt) xs.toArray, ⟨⟨_, Heap.get?_push_size _ rfl, rfl, rfl⟩, hl.push _⟩, fun b o e => Heap.get?_push_of_some _ e, fun b hb => ?_, fun b hb => ?_, fun k h st b hb => ?_⟩⟩
  · rw [List.mem_singleton.mp hb, Heap.size_push]; exact ⟨Nat.le_refl _, Nat.lt_succ_self _⟩
  · rcases List.mem_cons.mp hb with rfl | hb
    · exact .inl (.head _)
    · rw [List.mem_singleton.mp hb]; exact .inr ⟨_, .head _⟩
  · rw [List.mem_singleton.mp hb]; obtain ⟨o, e, _⟩ := st.1; exact ⟨o, e⟩

noncomputable abbrev scT : Scope := { kind := .function, names := [(".0", .local), ("pair", .local), ("part", .local)], isGenerator := false, isCoroutine := false, more := [] }
noncomputable abbrev rowCallT : Expr := .Call (.Name "_law_row" ⟨270, 29, 270, 37⟩) [.Call (.Name "_law_safe" ⟨270, 38, 270, 47⟩) [.Name "texts" ⟨270, 48, 270, 53⟩] [] ⟨270, 38, 270, 54⟩] [] ⟨270, 29, 270, 55⟩
noncomputable abbrev eT : Expr := .ListComp (.Name "part" ⟨270, 12, 270, 16⟩) [⟨.Name "pair" ⟨270, 21, 270, 25⟩, rowCallT, [], 0⟩, ⟨.Name "part" ⟨270, 60, 270, 64⟩, .Name "pair" ⟨270, 68, 270, 72⟩, [], 0⟩] scT ⟨270, 11, 270, 73⟩
noncomputable def bodyT (D : Addr) (env : Env) : Sem Unit := do
  let x ← eval (.Name "pair" ⟨270, 68, 270, 72⟩) env
  standAt ⟨270, 68, 270, 72⟩
  let x ← foldedSetIterable (.Name "pair" ⟨270, 68, 270, 72⟩) env x
  let _ ← runOwn (.compStart eT 1 (← holding [x] (pyIter x)) (.ref D) env) env
noncomputable def finT (D : Addr) (env : Env) (k : Sem PySem.Fin) : Sem PySem.Fin := do
  let x ← eval (.Name "pair" ⟨270, 68, 270, 72⟩) env
  standAt ⟨270, 68, 270, 72⟩
  let x ← foldedSetIterable (.Name "pair" ⟨270, 68, 270, 72⟩) env x
  let _ ← runOwn (.compStart eT 1 (← holding [x] (pyIter x)) (.ref D) env) env
  k
theorem finT_eq (D : Addr) (env : Env) (k : Sem PySem.Fin) : finT D env k = (bodyT D env >>= fun _ => k) := by
  unfold finT bodyT
  simp only [bind_assoc, pure_bind]
theorem turnT (D a : Addr) (env : Env) : compTurn eT 0 (.ref a) (.ref D) env = (standAt ⟨270, 29, 270, 55⟩ >>= fun _ => pyNext (.ref a) >>= fun r => match r with
      | none => pure (.done .next)
      | some v => assign (.Name "pair" ⟨270, 21, 270, 25⟩) env v >>= fun _ => bodyT D env >>= fun _ => again (.compLoop eT 0 (.ref a) (.ref D) env)) := by
  simp only [← finT_eq]
  rfl
theorem turnT1 (D a : Addr) (env : Env) : compTurn eT 1 (.ref a) (.ref D) env = (standAt ⟨270, 68, 270, 72⟩ >>= fun _ => pyNext (.ref a) >>= fun r => match r with
      | none => pure (.done .next)
      | some v => assign (.Name "part" ⟨270, 60, 270, 64⟩) env v >>= fun _ => (do let _ ← call (.builtin "list.append") [.ref D, ← eval (.Name "part" ⟨270, 12, 270, 16⟩) env] : Sem Unit) >>= fun _ => again (.compLoop eT 1 (.ref a) (.ref D) env)) := rfl

/-- the inner clause: a pair's two parts -/
theorem told_turn {c : Cx} {D a : Addr} {v2 : Option Value} {items : List Value} {xs : List Value} {J : Vs → Nw → List Value → Prop} (hi0 : c.ks[0]? = some ("pair" : Str)) (hi1 : c.ks[1]? = some ("part" : Str)) (hT : Has c [] a (tupOf items)) (hsz : xs.length + items.length ≤ 16777216)
    (hun : ∀ b, c.A.under (.compStart eT 1 (.ref b) (.ref D) c.env) = c.A) (hun' : ∀ b, c.A.under (.compLoop eT 1 (.ref b) (.ref D) c.env) = c.A) (h : ∀ x2, J [some (.ref a), x2] [] (xs ++ items)) :
    DoA c D (bodyT D c.env) J [some (.ref a), v2] [] xs := DoA.mk fun pin s n S hD ho => by
  have hTa := S.get hT
  have hTt : s.heap.IsTuple a items.toArray := isT S hT
  unfold bodyT
  refine wpAny_bind (wpAny_Name (wpAny_loadName_local c.hk (c.loc _ (List.mem_of_getElem? hi0)).1 S.ns (look_get c.nd hi0 (vs := [some (.ref a), v2]) rfl) ?_) rfl)
  refine wpAny_bind (wpAny_standAt ?_)
  refine wpAny_bind (wpAny_of_eq (a := Value.ref a) rfl ?_)
  refine wpAny_bind (wpAny_holding (wpAny_pyIter_tuple hTt ?_))
  have k₁ : ∀ b o, s.heap.get? b = some o → (s.heap.push (tupIt a)).get? b = some o := fun b o e => Heap.get?_push_of_some _ e
  have S₁ : St c pin [some (.ref a), v2] [] { s with heap := s.heap.push (tupIt a), toks := s.toks } := S.ext k₁ S.tk
  have hlt : a < s.heap.objs.size := Heap.lt_size hTa.1
  have W : Walks PR c.w c.A s.heap.objs.size [s.heap.objs.size, a] [s.heap.objs.size] items.toArray.size (fun i v => items.toArray[i]? = some v) (fun i h => h.IsTupleIter s.heap.objs.size a i ∧ h.IsTuple a items.toArray) := Walks.tuple c.hh s.heap.objs.size a (Nat.ne_of_lt hlt) items.toArray
  have st0 : (s.heap.push (tupIt a)).IsTupleIter s.heap.objs.size a 0 ∧ (s.heap.push (tupIt a)).IsTuple a items.toArray := ⟨⟨_, Heap.get?_push_size _ rfl, rfl, rfl⟩, hTt.push _⟩
  have key := comp_turns (c := c) (D := D) (e := eT) (d := 1) (px := ⟨270, 60, 270, 64⟩) (p := ⟨270, 68, 270, 72⟩) (i := 1) (body := (do let _ ← call (.builtin "list.append") [.ref D, ← eval (.Name "part" ⟨270, 12, 270, 16⟩) c.env])) hi1 W [(a, tupOf items)]
    (fun k vs nw ys => ∃ x2, vs = [some (.ref a), x2] ∧ nw = [] ∧ ys = xs ++ items.take k) rfl rfl (hun' _) (turnT1 D _ c.env) ?_ ?_ ?_ ?_ ?_ pin _ _ _ xs n S₁ (k₁ _ _ hD) ho ?_ st0 ⟨v2, rfl, rfl, by simp⟩
  · refine wpAny_bind (wpAny_runOwn (codeAny_mono (comp_start (c := c) rfl (hun _) rfl rfl (fun Q E hQ => W.self 0 _ _ _ st0 hQ) key) fun r s' hr => ?_))
    obtain ⟨rfl, vs', nw', xs', m', S', hD', hw', x2, rfl, rfl, rfl⟩ := hr
    refine wpAny_pure fun ht => ⟨_, _, _, m', S', hD', hw', ?_⟩
    rw [show items.toArray.size = items.length from by simp, List.take_length]
    exact h x2
  · rintro k vs nw ys ⟨x2, rfl, rfl, _⟩ p hp
    rw [List.mem_singleton.mp hp]; exact hT
  · intro b hb
    rcases List.mem_cons.mp hb with rfl | hb
    · exact .inl (.head _)
    · rw [List.mem_singleton.mp hb]; exact .inr ⟨_, .head _⟩
  · rintro k h st b hb
    rw [List.mem_singleton.mp hb]; obtain ⟨o, e, _⟩ := st.1; exact ⟨o, e⟩
  · intro hm
    rw [List.mem_singleton.mp hm] at hD
    exact Nat.lt_irrefl _ (Heap.lt_size hD)
  · rintro k v vs nw ys hk hv ⟨x2, rfl, rfl, rfl⟩
    have hkl : k < items.length := by simpa using hk
    have hv' : items[k]? = some v := by simpa using hv
    refine doa_emit (by rw [List.length_append, List.length_take]; omega) ?_
    refine do_loc 1 hi1 rfl ⟨some v, rfl, rfl, ?_⟩
    rw [List.append_assoc, List.take_add_one, hv']; rfl
  · intro b hb
    rw [List.mem_singleton.mp hb]
    exact ⟨Nat.ne_of_gt S.ns.lt, S.gr.size, fun o q => Nat.lt_irrefl _ (Heap.lt_size (S.pinned _ _ q)), fun p hp => nomatch hp⟩

theorem safe_len {ts : List (List Nat)} (hw : wt ts ≤ 100000) : (safeOf ts).length ≤ 200000 := by
  have h1 := sgs_len ts ([], false)
  have h2 := sq_len false (replaceL unk [] (signsOf ts))
  have h3 := replaceL_nil_len unk (signsOf ts)
  show (sq false (replaceL unk [] (signsOf ts))).length ≤ 200000
  have h4 : (signsOf ts).length ≤ 0 + wt ts := h1
  omega
theorem tks_len : ∀ (n : Nat) (a : List Nat), (tks n a).length ≤ n
  | 0, _ => Nat.le_refl _
  | _ + 1, [] => Nat.zero_le _
  | n + 1, c :: r => by
    have h1 := tks_len n (r.dropWhile isDig)
    have h2 := tks_len n r
    have h3 := tks_len n (r.dropWhile isWd)
    simp only [tks]
    split
    · simp only [List.length_cons]; omega
    · split
      · omega
      · simp only [List.length_cons]; omega
theorem tk_len (a : List Nat) : (tk a).length ≤ a.length := tks_len _ a

theorem fn_law_told (l : Addr) (xs : List Value) (n : Nat) (ts : List (List Nat)) (hx : Txs xs ts) (hw : wt ts ≤ 100000) : Fn 232 3 [.ref l] [(l, lstOf xs n)] (isFlat (flatP (rowOf (safeOf ts)))) := by
  refine Fn.of D_law_told (m := 0) rfl (fun w => by kernel_rfl) fun w A L os rm low => ?_
  refine do_cons ?_
  refine do_Return ?_
  refine Do.mk fun pin s S => ?_
  rw [eval_ListComp]
  refine wpAny_comprehension_free (use := none) (cl := []) rfl (by intro _; rfl) rfl rfl (by decide) (wpAny_mono (Do.use (Q := fun xv vs nw => isPairs (rowOf (safeOf ts)) xv nw) ?_ S) (fun xv s₁ h₁ => ?_) fun _ _ z => z.elim)
  · refine do_CallF D_law_row 0 rfl ?_
    refine do_args ?_
    refine do_CallF D_law_safe 1 rfl ?_
    refine do_args ?_
    refine do_loc 0 rfl rfl ?_
    refine do_args0 ?_
    refine do_fn (fn_law_safe l xs n ts hx hw) rfl (fun p hp => .inr hp) fun v nw' hv => ?_
    obtain ⟨⟨u, rfl⟩, rfl⟩ := hv
    refine do_args0 ?_
    refine do_fn (fn_law_row (safeOf ts) u ?_) rfl no_ro fun v nw' hv => ?_
    · exact Nat.le_trans (safe_len hw) (by decide)
    · simpa using hv
  · obtain ⟨vs₁, nw₁, S₁, lp, ys, m, rest, rfl, rfl, hps⟩ := h₁
    have hmem : (lp, lstOf ys m) ∈ rest ++ [(lp, lstOf ys m)] := by simp
    have hlen : ys.length = (rowOf (safeOf ts)).length := hps.length_eq
    have loc : ∀ x ∈ (["pair", "part"] : List Str), (relabel scT (D_law_told.cx w A L [(l, lstOf xs n)] os 2 rm low).env).names.lookup x = some .local ∧ (x == ("__debug__" : Str)) = false := by
      intro x hx
      rcases List.mem_cons.mp hx with rfl | hx
      · exact ⟨rfl, rfl⟩
      · rw [List.mem_singleton.mp hx]; exact ⟨rfl, rfl⟩
    refine comp_core (c := D_law_told.cx w A L [(l, lstOf xs n)] os 2 rm low) (scope := scT) (cl := []) (ks := ["pair", "part"]) (gs := []) (ro := rest ++ [(lp, lstOf ys m)]) (i := 0) (hk := rfl) (nd := by decide) (loc := loc) (glo := fun p hp => nomatch hp) (by decide) rfl (tdI (rowOf (safeOf ts)))
      (fun C D => bodyT D (compEnvC scT [] C (D_law_told.cx w A L [(l, lstOf xs n)] os 2 rm low).env)) (p := ⟨270, 29, 270, 55⟩) S₁ (fun p hp => ⟨S₁.own p hp, hi_ne (Nat.le_trans low (Nat.le_of_lt (S₁.nwA p hp).1))⟩) (src_list S₁ (.inl hmem)) (fun C a D => ?_) (fun C low' k vs nw xs hI p hp => ?_) (fun C low' => ?_) (fun C low' D k v vs nw xs hk hv hI => ?_)
      (Q := fun acc C => compPost (MM w) A _ none _ acc C) ?_
    · exact turnT D a _
    · obtain ⟨x1, x2, rfl, rfl, _⟩ := hI
      rw [List.mem_singleton.mp hp]
      exact .inr hmem
    · exact ⟨none, none, rfl, rfl, by simp [flatP]; exact All2.nil, Nat.le_refl _⟩
    · obtain ⟨x1, x2, rfl, rfl, hxs, hxl⟩ := hI
      have hkl : k < ys.length := by simpa using hk
      have hkr : k < (rowOf (safeOf ts)).length := hlen ▸ hkl
      obtain ⟨a, t, x, e1, e2, e3⟩ := hps.get k hkl hkr
      have hva : v = .ref a := by
        have : ys[k]? = some v := by simpa using hv
        rw [List.getElem?_eq_getElem hkl, e1] at this
        exact (Option.some.inj this).symm
      subst hva
      refine told_turn (c := Cx.comp _ _ _ _ _ _ _ _ loc _ C low') rfl rfl (items := [.int ((rowOf (safeOf ts))[k]).1 t, x]) (.inr (List.mem_append_left _ e2)) ?_ (fun b => rfl) (fun b => rfl) fun x2 => ?_
      · have h1 : (rowOf (safeOf ts)).length ≤ (safeOf ts).length := by unfold rowOf; rw [List.length_map]; exact tk_len _
        have h2 := safe_len hw
        simp only [List.length_cons, List.length_nil]
        omega
      · refine ⟨_, _, rfl, rfl, ?_, by simp; omega⟩
        rw [flatP_snoc (List.getElem?_eq_getElem hkr)]
        exact hxs.app (All2.cons ⟨_, rfl⟩ (All2.cons e3 All2.nil))
    · rintro D C low' vs' nw' zs m' s' ⟨x1, x2, rfl, rfl, hzs, _⟩ S' hC hCo
      rw [show ys.toArray.size = ys.length from by simp, hlen, List.take_length] at hzs
      obtain ⟨mC, hC⟩ := hC
      refine ⟨mC, hC, fun h' hs' ht => ?_⟩
      refine ⟨_, _, S'.out (wr := [C]) (fun b o hb e => hs'.extBut b o (by simpa using hb) e) (fun b hb => by rw [List.mem_singleton.mp hb]; exact hCo) ht, _, sub1, _, _, _, rfl, rfl, hzs⟩
end Mine
end

section
set_option maxRecDepth 100000
set_option linter.unusedVariables false
namespace Mine
open PySem

/-! the tokens of a raw text -/
noncomputable def mapC (c : Nat) : Nat := if c ∈ dashes then 45 else if c = 32 then 95 else c
theorem repl1_map (y z : Nat) : ∀ l : List Nat, replaceL [y] [z] l = l.map fun c => if c = y then z else c
  | [] => rfl
  | c :: r => by
    by_cases h : c = y
    · subst h
      rw [show c :: r = [c] ++ r from rfl, replaceL_hit (by simp), repl1_map c z r]
      simp
    · rw [replaceL_miss (by simp) (by rintro ⟨q, hq⟩; simp at hq; exact h hq.1.symm), repl1_map y z r]
      simp [h]
theorem mapD_map (l : List Nat) : mapD l = l.map mapC := by
  unfold mapD
  simp only [repl1_map, List.map_map]
  refine List.map_congr_left fun c _ => ?_
  simp only [Function.comp]
  unfold mapC dashes
  by_cases h1 : c = 32
  · subst h1; decide
  by_cases h2 : c = 47
  · subst h2; decide
  by_cases h3 : c = 92
  · subst h3; decide
  by_cases h4 : c = 58
  · subst h4; decide
  by_cases h5 : c = 59
  · subst h5; decide
  by_cases h6 : c = 34
  · subst h6; decide
  by_cases h7 : c = 40
  · subst h7; decide
  by_cases h8 : c = 41
  · subst h8; decide
  by_cases h9 : c = 45
  · subst h9; decide
  simp [h1, h2, h3, h4, h5, h6, h7, h8, h9]

noncomputable def K (x : List Nat) : List Tk := tk (replaceL unk [] (x.map mapC))
noncomputable def sepC (c : Nat) : Bool := isSep (mapC c)

theorem pre_cut {s : Nat} {v : List Nat} : ∀ {y u : List Nat}, s ∉ y → y <+: u ++ s :: v → y <+: u
  | [], _, _, _ => List.nil_prefix
  | d :: y, [], hs, h => by
    rw [List.nil_append, List.cons_prefix_cons] at h
    exact absurd (h.1 ▸ .head _) hs
  | d :: y, c :: u, hs, h => by
    rw [List.cons_append, List.cons_prefix_cons] at h
    rw [List.cons_prefix_cons]
    exact ⟨h.1, pre_cut (fun hm => hs (.tail _ hm)) h.2⟩
/-- a sign that is not of the word cuts a replacement -/
theorem repl_cut {y z : List Nat} (hy : y ≠ []) {s : Nat} (hs : s ∉ y) (v : List Nat) : ∀ (n : Nat) (u : List Nat), u.length ≤ n → replaceL y z (u ++ s :: v) = replaceL y z u ++ s :: replaceL y z v
  | _, [], _ => by
    rw [List.nil_append, replaceL_miss hy]
    · rfl
    · rintro ⟨q, hq⟩
      obtain ⟨c, r, rfl⟩ := List.exists_cons_of_ne_nil hy
      simp at hq
      exact hs (hq.1 ▸ .head _)
  | 0, _ :: _, h => by simp at h
  | n + 1, c :: r, h => by
    simp only [List.length_cons] at h
    by_cases hp : y <+: c :: r
    · obtain ⟨q, hq⟩ := hp
      have hl : q.length ≤ n := by
        have h1 := congrArg List.length hq
        have h2 : 0 < y.length := List.length_pos_iff.mpr hy
        simp at h1
        omega
      rw [← hq, List.append_assoc, replaceL_hit hy, replaceL_hit hy, repl_cut hy hs v n q hl, List.append_assoc]
    · have hp' : ¬ y <+: c :: (r ++ s :: v) := by
        intro hq
        rw [← List.cons_append] at hq
        exact hp (pre_cut hs hq)
      rw [List.cons_append, replaceL_miss hy hp', replaceL_miss hy hp, repl_cut hy hs v n r (by omega)]
      rfl

theorem sep_unk {c : Nat} (h : isSep c = true) : c ∉ unk := by
  intro hm
  have : (unk.all fun c => !isSep c) = true := by decide
  have := List.all_eq_true.mp this c hm
  rw [h] at this
  cases this
theorem K_cut {s : Nat} (hs : sepC s = true) (u v : List Nat) : K (u ++ s :: v) = K u ++ K v := by
  unfold K
  rw [List.map_append, List.map_cons, repl_cut unk_ne (sep_unk hs) _ _ _ (Nat.le_refl _), tk_app hs]
theorem K_nil : K [] = [] := rfl
theorem K_cons {s : Nat} (hs : sepC s = true) (v : List Nat) : K (s :: v) = K v := by
  have := K_cut hs [] v
  simpa [K_nil] using this
theorem K_snoc {s : Nat} (hs : sepC s = true) (u : List Nat) : K (u ++ [s]) = K u := by
  have := K_cut hs u []
  simpa [K_nil] using this
theorem K_dw {g : Nat → Bool} : ∀ (a : List Nat), (∀ c ∈ a, g c = true → sepC c = true) → K (a.dropWhile g) = K a
  | [], _ => rfl
  | c :: r, h => by
    rw [List.dropWhile_cons]
    split
    · rename_i hc
      rw [K_dw r fun d hd => h d (.tail _ hd), K_cons (h c (.head _) hc)]
    · rfl
theorem K_rtrim {g : Nat → Bool} (a : List Nat) (h : ∀ c ∈ a, g c = true → sepC c = true) : K (rtrim g a) = K a := by
  have key : ∀ n (l : List Nat), l.length = n → (∀ c ∈ l, g c = true → sepC c = true) → K (rtrim g l) = K l := by
    intro n
    induction n with
    | zero =>
      intro l hl _
      rw [List.eq_nil_of_length_eq_zero hl]; rfl
    | succ n ih =>
      intro l hl hg
      have hne : l ≠ [] := by rintro rfl; simp at hl
      obtain ⟨m, c, rfl⟩ : ∃ m c, l = m ++ [c] := ⟨l.dropLast, l.getLast hne, (List.dropLast_concat_getLast hne).symm⟩
      cases hc : g c with
      | true =>
        rw [rtrim_snoc hc, ih m (by simpa using hl) fun d hd => hg d (by simp [hd]), K_snoc (hg c (by simp) hc)]
      | false => rw [rtrim_stop hc]
  exact key _ a rfl h
theorem K_trim {g : Nat → Bool} (a : List Nat) (h : ∀ c ∈ a, g c = true → sepC c = true) : K (trim g a) = K a := by
  unfold trim
  rw [K_rtrim _ fun c hc => h c ((List.dropWhile_sublist g).subset hc), K_dw _ h]
theorem K_join {z : Nat} (hz : sepC z = true) : ∀ ts : List (List Nat), K (joinL [z] ts) = ts.flatMap K
  | [] => rfl
  | [x] => by simp [joinL]
  | x :: y :: r => by
    show K (x ++ [z] ++ joinL [z] (y :: r)) = _
    rw [List.append_assoc, List.singleton_append, K_cut hz, K_join hz (y :: r)]; rfl

/-- the alphabet -/
noncomputable def alpha : List Nat := [97, 47, 49, 46, 117, 110, 107, 111, 119, 114, 99, 32, 98, 48, 45, 40, 233]
noncomputable def Al (a : List Nat) : Prop := ∀ c ∈ a, c ∈ alpha
theorem al_space {c : Nat} (h : c ∈ alpha) (hs : Unicode.isSpace c = true) : sepC c = true := by
  have : (alpha.all fun c => !Unicode.isSpace c || sepC c) = true := by decide +kernel
  have := List.all_eq_true.mp this c h
  rw [hs] at this
  simpa using this
theorem al_blank {c : Nat} (hs : (c == 32 || c == 9) = true) (h : c ∈ alpha) : sepC c = true := by
  have : (alpha.all fun c => !(c == 32 || c == 9) || sepC c) = true := by decide +kernel
  have := List.all_eq_true.mp this c h
  rw [hs] at this
  simpa using this

theorem flat_ne0 (ts : List (List Nat)) : (ts.filter ne0).flatMap K = ts.flatMap K := by
  induction ts with
  | nil => rfl
  | cons a ts ih =>
    cases h : ne0 a
    · have ha : a = [] := by unfold ne0 at h; simpa using h
      rw [List.filter_cons, h, if_neg (by decide), ih, List.flatMap_cons, ha, K_nil, List.nil_append]
    · rw [List.filter_cons, h, if_pos rfl, List.flatMap_cons, List.flatMap_cons, ih]
theorem flat_trim (g : Nat → Bool) (ts : List (List Nat)) (h : ∀ a ∈ ts, ∀ c ∈ a, g c = true → sepC c = true) : (ts.map (trim g)).flatMap K = ts.flatMap K := by
  induction ts with
  | nil => rfl
  | cons a ts ih => rw [List.map_cons, List.flatMap_cons, List.flatMap_cons, ih fun b hb => h b (.tail _ hb), K_trim a (h a (.head _))]

/-- what _platform makes, read as tokens -/
theorem plat_tk (ts : List (List Nat)) (h : ∀ a ∈ ts, Al a) : tk (plat0 ts) = ts.flatMap K := by
  unfold plat0
  rw [mapD_map]
  show K (joinL [45] _) = _
  rw [K_join rfl, flat_trim _ _ fun a ha c hc hs => al_space (h a (List.mem_filter.mp ha).1 c hc) hs, flat_ne0]

/-! the law's own reading -/
theorem sg_fold : ∀ (ts : List (List Nat)) (s : List Nat) , (ts.foldl sgStep (s, true)).1 = s ++ ((ts.filter ne0).flatMap fun a => 45 :: trim (fun c => c == 32 || c == 9) a)
  | [], s => by simp
  | a :: ts, s => by
    rw [List.foldl_cons]
    by_cases h : a = []
    · subst h
      show (ts.foldl sgStep (s, true)).1 = _
      rw [sg_fold ts s]; rfl
    · have h1 : (a != []) = true := by simpa using h
      have h2 : ne0 a = true := by unfold ne0; simpa using h
      have e : sgStep (s, true) a = (s ++ [45] ++ trim (fun c => c == 32 || c == 9) a, true) := by unfold sgStep; simp [h1]
      rw [e, sg_fold ts]
      simp [List.filter_cons, h2]
theorem signs_eq : ∀ ts : List (List Nat), signsOf ts = joinL [45] ((ts.filter ne0).map (trim fun c => c == 32 || c == 9))
  | [] => rfl
  | a :: ts => by
    by_cases h : a = []
    · subst h
      show (ts.foldl sgStep ([], false)).1 = _
      exact signs_eq ts
    · have h1 : (a != []) = true := by simpa using h
      have h2 : ne0 a = true := by unfold ne0; simpa using h
      unfold signsOf
      rw [List.foldl_cons]
      have e : sgStep ([], false) a = (trim (fun c => c == 32 || c == 9) a, true) := by unfold sgStep; simp [h1]
      rw [e, sg_fold, List.filter_cons, h2, if_pos rfl, List.map_cons]
      have key : ∀ (l : List (List Nat)) (x : List Nat), x ++ (l.flatMap fun a => 45 :: trim (fun c => c == 32 || c == 9) a) = joinL [45] (x :: l.map (trim fun c => c == 32 || c == 9)) := by
        intro l
        induction l with
        | nil => intro x; simp [joinL]
        | cons b l ih =>
          intro x
          rw [List.flatMap_cons, List.map_cons]
          show _ = x ++ [45] ++ joinL [45] (trim _ b :: l.map (trim _))
          rw [← ih]; simp
      exact key _ _

theorem unk_pre {l : List Nat} : unk <+: l.map mapC ↔ unk <+: l := by
  have one : ∀ (y l : List Nat), (∀ c ∈ y, c ∈ unk) → (y <+: l.map mapC ↔ y <+: l) := by
    intro y
    induction y with
    | nil => intro l _; simp
    | cons d y ih =>
      intro l hd
      cases l with
      | nil => simp
      | cons c l =>
        rw [List.map_cons, List.cons_prefix_cons, List.cons_prefix_cons, ih l fun e he => hd e (.tail _ he)]
        have hdu : d ∈ unk := hd d (.head _)
        have : d = mapC c ↔ d = c := by
          unfold mapC
          constructor
          · intro e
            split at e
            · subst e; exact absurd hdu (by decide)
            · split at e
              · subst e; exact absurd hdu (by decide)
              · exact e
          · intro e
            subst e
            have h1 : (unk.all fun c => !decide (c ∈ dashes) && c != 32) = true := by decide
            have h2 := List.all_eq_true.mp h1 d hdu
            simp only [Bool.and_eq_true, Bool.not_eq_true', decide_eq_false_iff_not, bne_iff_ne] at h2
            rw [if_neg h2.1, if_neg h2.2]
        rw [this]
  exact one unk l fun c hc => hc
theorem repl_map : ∀ (n : Nat) (l : List Nat), l.length ≤ n → replaceL unk [] (l.map mapC) = (replaceL unk [] l).map mapC
  | _, [], _ => rfl
  | 0, _ :: _, h => by simp at h
  | n + 1, c :: r, h => by
    simp only [List.length_cons] at h
    by_cases hp : unk <+: c :: r
    · obtain ⟨q, hq⟩ := hp
      have hl : q.length ≤ n := by
        have h1 := congrArg List.length hq
        simp [unk] at h1
        omega
      rw [← hq, List.map_append, show unk.map mapC = unk from by decide, replaceL_hit unk_ne, replaceL_hit unk_ne, repl_map n q hl, List.nil_append, List.nil_append]
    · rw [replaceL_miss unk_ne hp, List.map_cons, replaceL_miss unk_ne (by rw [← List.map_cons, unk_pre]; exact hp), repl_map n r (by omega), List.map_cons]

theorem sq_tk : ∀ (l u : List Nat), tk (u ++ sq true l) = tk (u ++ 45 :: l.map mapC) ∧ tk (u ++ sq false l) = tk (u ++ l.map mapC)
  | [], u => by
    refine ⟨?_, rfl⟩
    show tk (u ++ []) = tk (u ++ [45])
    rw [show u ++ [45] = u ++ 45 :: [] from rfl, tk_app dash_sep, tk_nil]; simp
  | c :: r, u => by
    by_cases h : c ∈ dashes
    · have hm : mapC c = 45 := by unfold mapC; rw [if_pos h]
      have e : ∀ o, sq o (c :: r) = sq true r := fun o => by simp only [sq]; rw [if_pos h]
      rw [e, e, List.map_cons, hm]
      refine ⟨?_, (sq_tk r u).1⟩
      rw [(sq_tk r u).1, tk_app dash_sep, tk_app dash_sep, tk_sep (c := 45) rfl rfl]
    · have hm : mapC c = if c = 32 then 95 else c := by unfold mapC; rw [if_neg h]
      have e : ∀ o, sq o (c :: r) = (if o then [45] else []) ++ mapC c :: sq false r := fun o => by simp only [sq]; rw [if_neg h, hm]
      rw [e, e, List.map_cons]
      have h1 := (sq_tk r (u ++ [45, mapC c])).2
      have h2 := (sq_tk r (u ++ [mapC c])).2
      simp only [List.append_assoc, List.cons_append, List.nil_append] at h1 h2
      exact ⟨by simpa using h1, by simpa using h2⟩

theorem safe_tk (ts : List (List Nat)) (h : ∀ a ∈ ts, Al a) : tk (safeOf ts) = ts.flatMap K := by
  unfold safeOf
  have := (sq_tk (replaceL unk [] (signsOf ts)) []).2
  simp only [List.nil_append] at this
  rw [this, ← repl_map _ _ (Nat.le_refl _), signs_eq]
  show K (joinL [45] _) = _
  rw [K_join rfl, flat_trim _ _ fun a ha c hc hs => al_blank hs (h a (List.mem_filter.mp ha).1 c hc), flat_ne0]
end Mine
end

section
set_option maxRecDepth 100000
set_option linter.unusedVariables false
namespace Mine
open PySem PySem.NumText

/-! the pattern's parts, by what is left -/
noncomputable def pt : Nat → List Nat → List (List Nat)
  | 0, l => [l]
  | f + 1, l => match l.dropWhile isWd with
    | [] => [l]
    | c :: r => l.takeWhile isWd :: (if isDig c then (c :: r).takeWhile isDig :: pt f ((c :: r).dropWhile isDig) else [c] :: pt f r)
theorem take_tw (p : Nat → Bool) (l : List Nat) : l.take (l.takeWhile p).length = l.takeWhile p := by
  conv => lhs; arg 2; rw [← List.takeWhile_append_dropWhile (p := p) (l := l)]
  rw [List.take_left]
theorem drop_tw (p : Nat → Bool) (l : List Nat) : l.drop (l.takeWhile p).length = l.dropWhile p := by
  conv => lhs; arg 2; rw [← List.takeWhile_append_dropWhile (p := p) (l := l)]
  rw [List.drop_left]
theorem rePt_pt : ∀ (f : Nat) (a : List Nat) (p : Nat), rePt f a p = pt f (a.drop p)
  | 0, _, _ => rfl
  | f + 1, a, p => by
    simp only [rePt, pt, nextM]
    cases hd : (a.drop p).dropWhile isWd with
    | nil => rfl
    | cons c r =>
      simp only []
      have e1 : (a.take (p + ((a.drop p).takeWhile isWd).length)).drop p = (a.drop p).takeWhile isWd := by
        rw [List.drop_take, Nat.add_sub_cancel_left, take_tw]
      have e2 : a.drop (p + ((a.drop p).takeWhile isWd).length) = c :: r := by
        rw [← List.drop_drop, drop_tw, hd]
      generalize p + ((a.drop p).takeWhile isWd).length = q at e1 e2 ⊢
      have e3 : ∀ m, a.drop (q + m) = (c :: r).drop m := fun m => by rw [← List.drop_drop, e2]
      have e4 : ∀ m, (a.take (q + m)).drop q = (c :: r).take m := fun m => by rw [List.drop_take, Nat.add_sub_cancel_left, e2]
      rw [e1, e4, rePt_pt f a, e3]
      cases hc : isDig c with
      | true =>
        simp only [if_true]
        rw [take_tw, drop_tw]
      | false =>
        simp only [Bool.false_eq_true, if_false]
        rfl
theorem reParts_pt (a : List Nat) : reParts a = pt (a.length + 1) a := by unfold reParts; rw [rePt_pt]; rfl

noncomputable def tkItem : Tk → List (Int ⊕ List Nat)
  | .inl d => [.inl 100, .inl (valOf d)]
  | .inr w => [.inl (stageOf w), .inr w]

theorem inf_seps {p : List Nat} (h : p <:+: seps) : ∀ c ∈ p, isSep c = true := fun c hc => by
  have h1 := h.subset hc
  have h2 : (seps.all isSep) = true := by decide
  exact List.all_eq_true.mp h2 c h1
theorem item_wd {c : Nat} {r : List Nat} (h : isWd c = true) : cvItem (c :: r) = tkItem (.inr (c :: r)) := by
  unfold cvItem
  have h' : isDig c = false ∧ isSep c = false := by unfold isWd at h; simpa using h
  have h1 : ¬ c :: r <:+: seps := fun q => by
    have := inf_seps q c (.head _)
    rw [h'.2] at this
    cases this
  rw [if_neg h1, if_neg (by simp [h'.1])]; rfl
theorem item_dig {c : Nat} {r : List Nat} (h : ∀ x ∈ c :: r, isDig x = true) : cvItem (c :: r) = tkItem (.inl (c :: r)) := by
  unfold cvItem
  have h1 : ¬ c :: r <:+: seps := fun q => by
    have h1 := sep_not_dig (inf_seps q c (.head _))
    rw [h c (.head _)] at h1
    cases h1
  rw [if_neg h1, if_pos (List.all_eq_true.mpr h)]; rfl
theorem sep_inf {c : Nat} (h : isSep c = true) : [c] <:+: seps := by
  unfold isSep at h
  simp only [Bool.or_eq_true, beq_iff_eq] at h
  rcases h with ((rfl | rfl) | rfl) | rfl <;> decide
theorem item_sep {c : Nat} (h : isSep c = true) : cvItem [c] = [] := by
  unfold cvItem
  rw [if_pos (sep_inf h)]
theorem item_nil : cvItem [] = [] := by
  unfold cvItem
  rw [if_pos (List.nil_infix)]

theorem tw_mem {p : Nat → Bool} {l : List Nat} : ∀ x ∈ l.takeWhile p, p x = true := fun x hx => by
  induction l with
  | nil => simp at hx
  | cons c r ih =>
    rw [List.takeWhile_cons] at hx
    split at hx
    · rename_i hc
      rcases List.mem_cons.mp hx with rfl | hx
      · exact hc
      · exact ih hx
    · simp at hx
/-- a word ahead -/
theorem tk_word (l : List Nat) : (tk l).flatMap tkItem = cvItem (l.takeWhile isWd) ++ (tk (l.dropWhile isWd)).flatMap tkItem := by
  cases l with
  | nil => rw [List.takeWhile_nil, item_nil]; rfl
  | cons c r =>
    by_cases h : isWd c = true
    · rw [tk_wd h, List.takeWhile_cons, if_pos h, item_wd h, List.dropWhile_cons, if_pos h]; rfl
    · rw [List.takeWhile_cons, if_neg h, item_nil, List.dropWhile_cons, if_neg h]; rfl
theorem pt_flat : ∀ (f : Nat) (l : List Nat), l.length < f → cvFlat (pt f l) = (tk l).flatMap tkItem
  | 0, _, h => by omega
  | f + 1, l, h => by
    have hl := List.takeWhile_append_dropWhile (p := isWd) (l := l)
    rw [tk_word]
    simp only [pt]
    cases hd : l.dropWhile isWd with
    | nil =>
      rw [hd, List.append_nil] at hl
      rw [hl]
      simp [cvFlat, tk_nil]
    | cons c r =>
      have hlen : (c :: r).length ≤ l.length := by rw [← hd]; exact dw_len isWd l
      simp only [List.length_cons] at hlen
      have hcw : isWd c = false := by
        have := List.head?_dropWhile_not isWd l
        rw [hd] at this
        simpa using this
      rcases kinds c with hc | ⟨hc, hnd⟩ | hc
      · have e : (c :: r).takeWhile isDig = c :: r.takeWhile isDig := by rw [List.takeWhile_cons, if_pos hc]
        have e2 : (c :: r).dropWhile isDig = r.dropWhile isDig := by rw [List.dropWhile_cons, if_pos hc]
        have ih := pt_flat f (r.dropWhile isDig) (by have := dw_len isDig r; omega)
        simp only [hc, if_true]
        rw [tk_dig hc, e, e2]
        unfold cvFlat at ih ⊢
        rw [List.flatMap_cons, List.flatMap_cons, List.flatMap_cons, ih, item_dig (by rw [← e]; exact tw_mem)]
      · have ih := pt_flat f r (by omega)
        simp only [hnd, Bool.false_eq_true, if_false]
        rw [tk_sep hc hnd]
        unfold cvFlat at ih ⊢
        rw [List.flatMap_cons, List.flatMap_cons, ih, item_sep hc, List.nil_append]
      · rw [hc] at hcw; cases hcw
theorem cv_tk (a : List Nat) : cvFlat (reParts a) = (tk a).flatMap tkItem := by rw [reParts_pt]; exact pt_flat _ _ (by omega)
theorem pt_len : ∀ (f : Nat) (l : List Nat), (pt f l).length ≤ 2 * f + 1
  | 0, _ => by simp [pt]
  | f + 1, l => by
    simp only [pt]
    split
    · simp
    · split
      · rename_i c r _ _
        have := pt_len f ((c :: r).dropWhile isDig)
        simp only [List.length_cons]; omega
      · rename_i c r _ _
        have := pt_len f r
        simp only [List.length_cons]; omega
theorem reParts_len (a : List Nat) : (reParts a).length ≤ 2 * a.length + 3 := by
  rw [reParts_pt]
  have := pt_len (a.length + 1) a
  omega
end Mine
end

section
set_option maxRecDepth 100000
set_option linter.unusedVariables false
namespace Mine
open PySem PySem.NumText

/-! words are no numbers -/
noncomputable def letters : List Nat := [97, 117, 110, 107, 111, 119, 114, 99, 98, 233]
theorem step_letter {c : Nat} (h : c ∈ 63 :: letters) (h2 : c ≠ 233) : step 10 ((#[] : Array Nat), false) c = none ∧ 33 ≤ c ∧ c ≠ 45 ∧ c ≠ 43 ∧ c ≠ 0 := by
  have key : ((63 :: letters).all fun c => c == 233 || ((step 10 ((#[] : Array Nat), false) c).isNone && Nat.ble 33 c && c != 45 && c != 43 && c != 0)) = true := by decide +kernel
  have := List.all_eq_true.mp key c h
  rw [Bool.or_eq_true, beq_iff_eq] at this
  rcases this with h | h
  · exact absurd h h2
  · simp only [Bool.and_eq_true, bne_iff_ne, Option.isNone_iff_eq_none] at h
    exact ⟨h.1.1.1.1, Nat.le_of_ble_eq_true h.1.1.1.2, h.1.1.2, h.1.2, h.2⟩
theorem digits_bad {c : Nat} {r : List Nat} (h : c ∈ 63 :: letters) (h2 : c ≠ 233) : digits? 10 (core (c :: r)) = none := by
  obtain ⟨h1, h33, h45, h43, _⟩ := step_letter h h2
  have e : ∃ r', core (c :: r) = c :: r' := by
    unfold core
    rw [dropWhile_of h33, sign_of h45 h43, List.reverse_cons, List.dropWhile_append]
    split
    · refine ⟨[], ?_⟩
      rw [List.dropWhile_cons, blank_of h33]; rfl
    · exact ⟨(r.reverse.dropWhile blank).reverse, by simp⟩
  obtain ⟨r', e⟩ := e
  rw [e]
  unfold digits?
  rw [List.foldlM_cons, h1]; rfl
theorem int_none {c : Nat} {r : List Nat} (h : c ∈ letters) : PySem.intText? (S (c :: r)) = none := by
  have key : ∃ c' r', numTextOf (S (c :: r)) = c' :: r' ∧ c' ∈ 63 :: letters ∧ c' ≠ 233 := by
    unfold numTextOf
    split
    · rename_i hall
      refine ⟨c, r, rfl, .tail _ h, ?_⟩
      rintro rfl
      rw [← Array.all_toList] at hall
      have := List.all_eq_true.mp hall 233 (by simp [S])
      exact absurd this (by decide)
    · show ∃ c' r', Unicode.numberText (c :: r) = _ ∧ _
      by_cases h233 : c = 233
      · subst h233
        refine ⟨63, [], ?_, .head _, by decide⟩
        rw [Unicode.numberText, if_neg (by decide), if_neg (by decide +kernel), show Unicode.decimalValue? 233 = none from by decide +kernel]
      · have h127 : c < 127 := by
          have k : (letters.all fun c => c == 233 || Nat.blt c 127) = true := by decide
          have := List.all_eq_true.mp k c h
          rw [Bool.or_eq_true, beq_iff_eq] at this
          exact Nat.le_of_ble_eq_true (this.resolve_left h233)
        exact ⟨c, Unicode.numberText r, by rw [Unicode.numberText, if_pos h127], .tail _ h, h233⟩
  obtain ⟨c', r', e, hc, h233⟩ := key
  have h0 := (step_letter hc h233).2.2.2.2
  unfold intText?
  split
  · have e2 : numSeenOf (S (c :: r)) = c' :: r'.takeWhile (· != 0) := by
      show (numTextOf (S (c :: r))).takeWhile _ = _
      rw [e, List.takeWhile_cons, if_pos (by simpa using h0)]
    rw [e2, digits_bad hc h233]
  · rfl

/-! the parts of a text of the alphabet -/
noncomputable def alphaM : List Nat := [97, 45, 49, 46, 117, 110, 107, 111, 119, 114, 99, 95, 98, 48, 233]
theorem am_wd {c : Nat} (h : c ∈ alphaM) (hw : isWd c = true) : c ∈ letters := by
  have k : (alphaM.all fun c => !isWd c || decide (c ∈ letters)) = true := by decide
  have := List.all_eq_true.mp k c h
  rw [hw] at this
  simpa using this
theorem am_16 {c : Nat} (h : c ∈ alphaM) : c < 16 ^ 8 := by
  have k : (alphaM.all fun c => Nat.blt c 1000) = true := by decide
  have := List.all_eq_true.mp k c h
  exact Nat.lt_trans (Nat.le_of_ble_eq_true this) (by decide)
theorem pt_ok : ∀ (f : Nat) (l : List Nat), l.length < f → l.length ≤ 640 → (∀ c ∈ l, c ∈ alphaM) → ∀ p ∈ pt f l, PartOk p
  | 0, _, h, _, _ => by omega
  | f + 1, l, h, h640, ha => by
    have hl := List.takeWhile_append_dropWhile (p := isWd) (l := l)
    have word : PartOk (l.takeWhile isWd) := by
      have hlen : (l.takeWhile isWd).length ≤ l.length := (List.takeWhile_sublist isWd).length_le
      refine ⟨by omega, ?_⟩
      cases hw : l.takeWhile isWd with
      | nil => exact .inl List.nil_infix
      | cons c r =>
        have hc : isWd c = true := tw_mem c (by rw [hw]; exact .head _)
        have hca : c ∈ alphaM := ha c ((List.takeWhile_sublist isWd).subset (by rw [hw]; exact .head _))
        have hd : isDig c = false := by unfold isWd at hc; simp at hc; exact hc.1
        exact .inr (.inr ⟨int_none (am_wd hca hc), by simp [hd], fun x hx => am_16 (ha x ((List.takeWhile_sublist isWd).subset (by rw [hw]; exact hx)))⟩)
    simp only [pt]
    cases hd : l.dropWhile isWd with
    | nil =>
      rw [hd, List.append_nil] at hl
      intro p hp
      rw [List.mem_singleton.mp hp]
      rw [hl] at word
      exact word
    | cons c r =>
      have hsub : (c :: r).Sublist l := hd ▸ List.dropWhile_sublist isWd
      have hlen := hsub.length_le
      simp only [List.length_cons] at hlen
      have hcw : isWd c = false := by
        have := List.head?_dropWhile_not isWd l
        rw [hd] at this
        simpa using this
      intro p hp
      rcases List.mem_cons.mp hp with rfl | hp
      · exact word
      rcases kinds c with hc | ⟨hc, hnd⟩ | hc
      · rw [hc] at hp
        simp only [if_true] at hp
        rcases List.mem_cons.mp hp with rfl | hp
        · have h2 : ((c :: r).takeWhile isDig).length ≤ (c :: r).length := (List.takeWhile_sublist isDig).length_le
          simp only [List.length_cons] at h2
          exact ⟨by omega, .inr (.inl ⟨by rw [List.takeWhile_cons, if_pos hc]; simp, tw_mem⟩)⟩
        · have e2 : (c :: r).dropWhile isDig = r.dropWhile isDig := by rw [List.dropWhile_cons, if_pos hc]
          rw [e2] at hp
          have h3 := dw_len isDig r
          exact pt_ok f _ (by omega) (by omega) (fun x hx => ha x (hsub.subset (.tail _ ((List.dropWhile_sublist isDig).subset hx)))) p hp
      · rw [hnd] at hp
        simp only [Bool.false_eq_true, if_false] at hp
        rcases List.mem_cons.mp hp with rfl | hp
        · exact ⟨by simp, .inl (sep_inf hc)⟩
        · exact pt_ok f r (by omega) (by omega) (fun x hx => ha x (hsub.subset (.tail _ hx))) p hp
      · rw [hc] at hcw; cases hcw
theorem parts_ok {a : List Nat} (h640 : a.length ≤ 640) (ha : ∀ c ∈ a, c ∈ alphaM) : (∀ p ∈ reParts a, PartOk p) ∧ (reParts a).length ≤ 2000 := by
  have := reParts_len a
  refine ⟨?_, by omega⟩
  rw [reParts_pt]
  exact pt_ok _ _ (by omega) h640 ha

/-! what _platform makes is of the alphabet, and short -/
theorem repl_mem {y : List Nat} : ∀ (n : Nat) (l : List Nat), ∀ c ∈ repl y [] n l, c ∈ l
  | 0, l, c, h => h
  | n + 1, [], c, h => h
  | n + 1, d :: r, c, h => by
    simp only [repl] at h
    split at h
    · rw [List.nil_append] at h
      exact List.mem_of_mem_drop (repl_mem n _ c h)
    · rcases List.mem_cons.mp h with rfl | h
      · exact .head _
      · exact .tail _ (repl_mem n r c h)
theorem joinL_mem {z : Nat} : ∀ (ts : List (List Nat)), ∀ c ∈ joinL [z] ts, c = z ∨ ∃ a ∈ ts, c ∈ a
  | [], c, h => by simp [joinL] at h
  | [x], c, h => .inr ⟨x, .head _, h⟩
  | x :: y :: r, c, h => by
    have h' : c ∈ x ++ [z] ++ joinL [z] (y :: r) := h
    rcases List.mem_append.mp h' with h | h
    · rcases List.mem_append.mp h with h | h
      · exact .inr ⟨x, .head _, h⟩
      · exact .inl (List.mem_singleton.mp h)
    · rcases joinL_mem (y :: r) c h with h | ⟨a, ha, hc⟩
      · exact .inl h
      · exact .inr ⟨a, .tail _ ha, hc⟩
theorem plat_mem {ts : List (List Nat)} (h : ∀ a ∈ ts, Al a) : ∀ c ∈ plat0 ts, c ∈ alphaM := by
  intro c hc
  unfold plat0 at hc
  have h1 := repl_mem _ _ c hc
  rw [mapD_map] at h1
  obtain ⟨d, hd, rfl⟩ := List.mem_map.mp h1
  have hd' : d ∈ 45 :: alpha := by
    rcases joinL_mem _ d hd with rfl | ⟨a, ha, hda⟩
    · exact .head _
    · obtain ⟨b, hb, rfl⟩ := List.mem_map.mp ha
      refine .tail _ (h b (List.mem_filter.mp hb).1 d ?_)
      unfold trim rtrim at hda
      have := (List.dropWhile_sublist _).subset (List.mem_reverse.mp hda)
      exact (List.dropWhile_sublist _).subset (List.mem_reverse.mp this)
  have k : ((45 :: alpha).all fun d => decide (mapC d ∈ alphaM)) = true := by decide
  exact of_decide_eq_true (List.all_eq_true.mp k d hd')
theorem plat_len (ts : List (List Nat)) : (plat0 ts).length ≤ wt ts := by
  unfold plat0
  refine Nat.le_trans (replaceL_nil_len _ _) ?_
  rw [mapD_map, List.length_map]
  exact Nat.le_trans (joinL_len _ _ rfl) (wt_trimmedW ts)
end Mine
end

section
open PySem PySem.W PySem.Calls PySem.Spec PyProof.Rows PySem.SeqAt
set_option maxRecDepth 100000
set_option linter.unusedVariables false
namespace Mine

section
variable {c : Cx} {vs : Vs} {nw : Nw}
theorem do_cellName {x : Str} {a : Addr} {o : Obj} {v : Value} {pos : Pos} {Q : Value → Vs → Nw → Prop} (hk : c.env.kindOf x = some .cell) (hc : c.env.cells.lookup x = some a) (hro : (a, o) ∈ c.ro) (hd : o.data = .cell (some v)) (h : Q v vs nw) (hdb : (x == ("__debug__" : Str)) = false) :
    Do c (eval (.Name x pos) c.env) Q vs nw := Do.mk fun pin s S => wpAny_Name (wpAny_loadName_cell c.hk hk hc ⟨o, S.pinned _ _ (S.ro _ hro), hd⟩ fun _ => ⟨_, _, S, h⟩) hdb

theorem setItem_at' {w : World} {A : Around} {E : Value → Shared → Prop} {s : Shared} {l : Addr} {items : Array Value} {n : Nat} {k : Int} {t : Tok} {v : Value} {Q : Unit → Shared → Prop} (hl : s.heap.get? l = some { cls := .type "list", data := .seq items n }) (h0 : 0 ≤ k) (hfit : k < 2 ^ 63) (hn : k < items.size)
    (hQ : ∀ h' n', h'.get? l = some { cls := .type "list", data := .seq (items.setIfInBounds k.toNat v) n' } → Heap.SameBut l s.heap h' → Q () { s with heap := h' }) : wpAny (MM w) A (setItem (.ref l) (.int k t) v) Q E s := by
  have hL : s.heap.IsList l items := ⟨_, hl, rfl, n, rfl⟩
  unfold setItem
  try with_reducible refine wpAny_holding ?_
  first | refine wpAny_bind (wpAny_pure ?_) | skip
  refine wpAny_bind (wpAny_sequenceKey hL.typeIs (by decide) ?_)
  refine wpAny_bind (wpAny_callSpecial?_slot (name := Str.ofString "__setitem__") hL.typeIs slot_list_setitem
    (wpAny_call_entry slot_list_setitem hL.typeIs entry_list_setitem ?_ (args_list_setitem _ _ _)))
  show wpAny _ _ (Builtin.List.listSubscript? (.int k t) >>= _) _ _ s
  refine wpAny_bind (wpAny_listSubscript_int (fitsIndex_of h0 hfit) ?_)
  clear hfit
  obtain ⟨j, rfl⟩ := Int.eq_ofNat_of_zero_le h0
  have hj : j < items.size := by omega
  have hx' : items[j]? = some items[j] := Array.getElem?_eq_getElem hj
  show wpAny _ _ ((seqItemAt l j >>= fun r => pure (r.map (j, ·))) >>= _) _ _ s
  refine wpAny_bind (wpAny_bind (wpAny_seqItemAt hl rfl (wpAny_pure ?_)))
  rw [hx']
  show wpAny _ _ (setSeqItemAt l j v >>= _) _ _ s
  have hfin : ∃ n', (s.heap.update l (Obj.mapSeq (·.setIfInBounds j v))).get? l = some { cls := .type "list", data := .seq (items.setIfInBounds j v) n' } := by
    obtain ⟨n', hd'⟩ := Obj.data_mapSeq (o := { cls := .type "list", data := .seq items n }) rfl (·.setIfInBounds j v)
    refine ⟨n', (Heap.get?_update_self _ hl (Obj.isFreed_of_seq hd')).trans (congrArg some ?_)⟩
    rw [← hd']; rfl
  obtain ⟨n', hfin⟩ := hfin
  refine wpAny_bind (wpAny_setSeqItemAt hl rfl ?_)
  first
    | exact wpAny_bind (wpAny_pure (wpAny_pure ⟨.none, rfl, wpAny_pure (hQ _ n' hfin (Heap.SameBut.update ..))⟩))
    | exact wpAny_pure ⟨.none, rfl, wpAny_pure (hQ _ n' hfin (Heap.SameBut.update ..))⟩
theorem setItem_at {w : World} {A : Around} {E : Value → Shared → Prop} {s : Shared} {l : Addr} {xs : List Value} {n : Nat} {k : Nat} {t : Tok} {v : Value} {Q : Unit → Shared → Prop} (hl : s.heap.get? l = some (lstOf xs n)) (hk : k < xs.length) (hsz : xs.length ≤ 16777216)
    (hQ : ∀ h' n', h'.get? l = some (lstOf (xs.set k v) n') → Heap.SameBut l s.heap h' → Q () { s with heap := h' }) : wpAny (MM w) A (setItem (.ref l) (.int k t) v) Q E s :=
  setItem_at' hl (by omega) (by omega) (by simpa using hk) fun h' n' hg hs => hQ h' n' (by rw [hg]; simp) hs

/-- xs[i] += text, the list owned -/
theorem do_AugItem {o i value : Expr} {pos' pos : Pos} {Q : Flow → Vs → Nw → Prop}
    (h : Do c (eval o c.env) (fun ov => Do c (eval i c.env) (fun iv vs nw => ∃ l xs n k t j old, ov = .ref l ∧ iv = .int (k : Nat) t ∧ nw[j]? = some (l, lstOf xs n) ∧ xs[k]? = some old ∧ xs.length ≤ 16777216 ∧
      Do c (eval value c.env) (fun v vs nw => nw[j]? = some (l, lstOf xs n) ∧ Do c (inplaceOp .Add old v) (fun new vs nw => nw[j]? = some (l, lstOf xs n) ∧ ∀ n', Q .next vs (nw.set j (l, lstOf (xs.set k new) n'))) vs nw) vs nw)) vs nw)
    (ha : ∀ ov iv new, augStore i ov iv new = (do holding [new, ov, iv] (setItem ov iv new); release [new, ov, iv] []; pure .next) := by intro _ _ _; rfl) :
    Do c (exec (.AugAssign (.Subscript o i pos') .Add value pos) c.env) Q vs nw := Do.mk fun pin s S => by
  refine wpAny_AugAssign_Subscript_any (wpAny_mono (h.use S) (fun ov s₁ ⟨_, _, S₁, h₁⟩ => wpAny_mono (h₁.use S₁) (fun iv s₂ h₂ => ?_) fun _ _ x => x) fun _ _ x => x) ha
  obtain ⟨vs₂, nw₂, S₂, l, xs, n, k, t, j, old, rfl, rfl, hj, hx, hsz, h₃⟩ := h₂
  have hlt : k < xs.length := (List.getElem?_eq_some_iff.mp hx).1
  have hL : s₂.heap.IsList l xs.toArray := ⟨_, S₂.own _ (List.mem_of_getElem? hj), rfl, n, rfl⟩
  refine wpAny_getItem_list hL (by omega) (by omega) (by simpa using hx) ?_
  refine wpAny_mono (h₃.use S₂) (fun v s₃ h₃' => ?_) fun _ _ x => x
  obtain ⟨vs₃, nw₃, S₃, hj₃, h₄⟩ := h₃'
  refine wpAny_mono (h₄.use S₃) (fun new s₄ h₄' => ?_) fun _ _ x => x
  obtain ⟨vs₄, nw₄, S₄, hj₄, h₅⟩ := h₄'
  exact setItem_at (S₄.own _ (List.mem_of_getElem? hj₄)) hlt hsz fun h' n' hg hs ht => ⟨_, _, S₄.upd hj₄ hs hg ht, h₅ n'⟩
end

noncomputable def pcs : List (List Nat) := [[97], [47], [49], [46], [117, 110, 107, 110, 111, 119, 110], [114, 99], [32], [47, 47], [47, 46, 46, 47], [98], [48], [45], [40], [117, 110], [107, 110, 111, 119, 110], [233]]
/-- two paths, thirty pieces at most -/
noncomputable def PathsOk (a b : List Nat) : Prop := ∃ us ws : List (List Nat), (∀ x ∈ us ++ ws, x ∈ pcs) ∧ us.length + ws.length ≤ 30 ∧ a = us.flatten ∧ b = ws.flatten
noncomputable def isPaths (v : Value) (nw : Nw) : Prop := ∃ l a b t u n, v = .ref l ∧ nw = [(l, lstOf [.str (S a) t, .str (S b) u] n)] ∧ PathsOk a b

/-- a def whose one parameter is a cell -/
structure FdC where
  f : Addr
  fd : World → FuncData
  body : World → List Stmt
  ks : List Str
  gs : List (Str × Value)
  pn : Str
  nd : ks.Nodup
  ho : ∀ w, ∃ o, (KK w).lookup f = some o ∧ o.data = .func (fd w)
  hbody : ∀ w, (fd w).body = .stmts (body w)
  hcode : ∀ w, codeIn (KK w) (fd w).code (fd w).qualname = true
  loc : ∀ w, (ks.all fun x => decide ((fd w).scope.names.lookup x = some .local) && !(x == ("__debug__" : Str))) = true
  glo : ∀ w, (gs.all fun p => decide ((fd w).scope.names.lookup p.1 = some .globalImplicit) && !(p.1 == ("__debug__" : Str)) &&
    (nsIn (KK w) mainGlobals p.1 == some (some p.2) || (nsIn (KK w) mainGlobals p.1 == some none && bootBuiltins p.1 == some p.2 && !(p.1 == ("__name__" : Str))))) = true
  kind : ∀ w, (fd w).scope.kind = .function
  co : ∀ w, (fd w).scope.isCoroutine = false
  gen : ∀ w, (fd w).scope.isGenerator = false
  hg : ∀ w, (fd w).globals = mainGlobals
  hb : ∀ w, (fd w).builtins = builtinsNs
  hclo : ∀ w, (fd w).closure = []
  hpn : ∀ w, (fd w).scope.names.lookup pn = some .cell
  hcells : ∀ w n, cellsFrom n (fd w).scope.names [] = [(pn, n)]
  hbind : ∀ w v, bindArgs (fd w) ⟨[v], []⟩ = pure [(pn, v)]

noncomputable def FdC.cx (D : FdC) (w : World) (A : Around) (L : Addr) (ro : Nw) (os : OsState × Heap) (lev : Nat) (rm : Rm lev A) (low : 261 ≤ L) : Cx where
  w := w
  A := A
  env := callEnvC (D.fd w) L D.f
  ks := D.ks
  gs := D.gs
  ro := ro
  os := os
  lev := lev
  rm := rm
  hk := D.kind w
  nd := D.nd
  loc := fun x hx => by
    have := List.all_eq_true.mp (D.loc w) x hx
    rw [Bool.and_eq_true] at this
    exact ⟨of_decide_eq_true this.1, by simpa using this.2⟩
  glo := fun p hp => by
    have := List.all_eq_true.mp (D.glo w) p hp
    rw [Bool.and_eq_true, Bool.and_eq_true, Bool.or_eq_true, Bool.and_eq_true, Bool.and_eq_true] at this
    refine ⟨of_decide_eq_true this.1.1, by simpa using this.1.2, ?_⟩
    rcases this.2 with h | ⟨⟨h1, h2⟩, h3⟩
    · exact .inl (beq_iff_eq.mp h)
    · exact .inr ⟨beq_iff_eq.mp h1, beq_iff_eq.mp h2, by simpa using h3⟩
  hg := D.hg w
  hb := D.hb w
  low := low

theorem look_nones : ∀ (l : List Str) (y : Str), look l (List.replicate l.length none) y = none
  | [], _ => rfl
  | k :: l, y => by
    simp only [look, List.length_cons, List.replicate_succ, List.zip_cons_cons, List.lookup_cons]
    cases y == k with
    | true => rfl
    | false => exact look_nones l y

theorem Fn.ofC (D : FdC) {n : Nat} {v : Value} {ro : Nw} {Post : Value → Nw → Prop}
    (h : ∀ w A L os rm low oc, oc.data = .cell (some v) → Do (D.cx w A L ((L + 1, oc) :: ro) os n rm low) (execs (D.body w) (callEnvC (D.fd w) L D.f)) (fun fl _ nw => ∃ nw', nw'.Sublist nw ∧ Post (retOf fl) nw') (List.replicate D.ks.length none) []) :
    Fn D.f (n + 1) [v] ro Post := by
  intro w A s R G gb htk hro
  obtain ⟨o, hl, hd⟩ := D.ho w
  refine codeAny_call_function (by have := R.hd; show A.depth < 1000; omega) (G.K _ _ hl) hd (D.co w) (D.gen w) (D.hbody w) (codeRec_of G.K (D.hcode w)) ?_
  rw [D.hbind w v, D.hclo w]
  refine wpAny_pure (wpAny_with_toks htk (wpAny_newFunctionEnv_cells (D.kind w) (fun x hx => ?_) fun env he s' x ht => ?_))
  · rw [List.mem_singleton.mp hx, D.hpn w, D.hcells w]
    exact .inr ⟨rfl, by simp⟩
  subst he
  have hkind : (callEnvC (D.fd w) s.heap.objs.size D.f).kindOf D.pn = some .cell := D.hpn w
  have hnl : ¬ (callEnvC (D.fd w) s.heap.objs.size D.f).kindOf D.pn = some .local := by rw [hkind]; decide
  have hcells : (callEnvC (D.fd w) s.heap.objs.size D.f).cells = [(D.pn, s.heap.objs.size + 1)] := D.hcells w _
  obtain ⟨oc, hoc, hdc⟩ := x.cell D.pn (s.heap.objs.size + 1) (by
    show List.lookup _ (callEnvC (D.fd w) s.heap.objs.size D.f).cells = _
    rw [hcells]; simp)
  have hdc' : oc.data = .cell (some v) := by
    rw [hdc]
    show Data.cell ((if (callEnvC (D.fd w) s.heap.objs.size D.f).kindOf D.pn = some .local then fun _ => none else fun y => if y = D.pn then some v else none) D.pn) = _
    rw [if_neg hnl, if_pos rfl]
  have hns := x.toInCall.ns
  have hns' : s'.heap.Ns s.heap.objs.size (look D.ks (List.replicate D.ks.length none)) := by
    have e : (bindL (callEnvC (D.fd w) s.heap.objs.size D.f).kindOf [(D.pn, v)] fun _ => none) = look D.ks (List.replicate D.ks.length none) := by
      show (if (callEnvC (D.fd w) s.heap.objs.size D.f).kindOf D.pn = some .local then fun y => if y = D.pn then some v else none else fun _ => none) = _
      rw [if_neg hnl]
      funext y
      exact (look_nones D.ks y).symm
    rw [← e]; exact hns
  obtain ⟨h₁, tk, rfl⟩ := x.toInCall.same
  have hk := x.toInCall.keep
  refine ⟨G.nl.keeps hk, codeAny_func ?_⟩
  have S : St (D.cx w (A.deeper (callEnvC (D.fd w) s.heap.objs.size D.f)) s.heap.objs.size ((s.heap.objs.size + 1, oc) :: ro) (s.os, s.heap) n R.deeper G.size) (fun b o => (s.heap.get? b = some o ∧ b ≠ 53) ∨ (b = s.heap.objs.size + 1 ∧ o = oc)) (List.replicate D.ks.length none) [] { s with heap := h₁, toks := tk } := {
    gr := G.ext fun b o _ e => hk b o e
    ns := hns'
    len := List.length_replicate
    pinned := fun b o h => by
      rcases h with h | ⟨rfl, rfl⟩
      · exact hk b o h.1
      · exact hoc
    pL := fun o h => by
      rcases h with h | ⟨h, _⟩
      · exact Nat.lt_irrefl _ (Heap.lt_size h.1)
      · exact Nat.ne_of_lt (Nat.lt_succ_self _) h
    p53 := fun o h => by
      rcases h with h | ⟨h, _⟩
      · exact h.2 rfl
      · exact hi_ne (Nat.le_succ_of_le G.size) h.symm
    ro := fun p hp => by
      rcases List.mem_cons.mp hp with rfl | hp
      · exact .inr ⟨rfl, rfl⟩
      · exact .inl (hro p hp)
    own := fun p hp => nomatch hp
    nwA := fun p hp => nomatch hp
    ord := List.Pairwise.nil
    gens := gb
    os := rfl
    tk := ht
    b53 := T53.of_tab G.tab fun o e => hk _ o e }
  refine wpAny_mono ((h w _ _ (s.os, s.heap) R.deeper G.size oc hdc').use S) (fun fl s' hq => ?_) fun _ _ x => x.elim
  obtain ⟨vs', nw', S', nw'', hsub, hp⟩ := hq
  have S'' := S'.drop hsub
  refine ⟨_, nw'', rfl, ⟨?_, S''.gr, fun b o hb e => S''.pinned b o (.inl ⟨e, hb⟩), fun p hp => ⟨S''.own p hp, ?_⟩, S''.ord, S''.gens, S''.os, S''.b53⟩⟩
  · cases fl <;> exact hp
  · exact Nat.le_of_lt (S''.nwA p hp).1

noncomputable def D_law_paths : FdC where
  f := 206
  fd := fdAt 206
  body := bodyAt 206
  ks := ["pieces", "cells", "paths", "cell", "words", "rest"]
  gs := [("range", .type "range"), ("min", .builtin "min"), ("len", .builtin "len")]
  pn := "script"
  nd := by decide +kernel
  ho := fun w => ⟨((KK w).lookup 206).getD default, by kernel_rfl, by kernel_rfl⟩
  hbody := fun w => by kernel_rfl
  hcode := fun w => by kernel_rfl
  loc := fun w => by kernel_rfl
  glo := fun w => by kernel_rfl
  kind := fun w => by kernel_rfl
  co := fun w => by kernel_rfl
  gen := fun w => by kernel_rfl
  hg := fun w => by kernel_rfl
  hb := fun w => by kernel_rfl
  hclo := fun w => by kernel_rfl
  hpn := fun w => by kernel_rfl
  hcells := fun w n => by kernel_rfl
  hbind := fun w v => by kernel_rfl
end Mine
end

section
open PySem PySem.W PySem.Calls PySem.Spec PyProof.Rows PySem.SeqAt
set_option maxRecDepth 100000
set_option linter.unusedVariables false
namespace Mine

noncomputable def AllInt (xs : List Value) : Prop := ∀ v ∈ xs, ∃ i t, v = .int i t
theorem AllInt.at {xs : List Value} (h : AllInt xs) : ∃ ns, IntsAt xs ns := by
  induction xs with
  | nil => exact ⟨[], All2.nil⟩
  | cons v xs ih =>
    obtain ⟨i, t, rfl⟩ := h v (.head _)
    obtain ⟨ns, hn⟩ := ih fun v hv => h v (.tail _ hv)
    exact ⟨i :: ns, All2.cons ⟨t, rfl⟩ hn⟩
theorem AllInt.pick {xs : List Value} (h : AllInt xs) (lo hi st : Option Int) : AllInt (slicePick xs.toArray lo hi st).toList := by
  intro v hv
  unfold slicePick at hv
  rw [List.toList_toArray, List.mem_filterMap] at hv
  obtain ⟨i, _, hi⟩ := hv
  refine h v ?_
  simp only [List.getElem?_toArray] at hi
  exact List.mem_of_getElem? hi
theorem pick_len (xs : List Value) (lo hi st : Option Int) (h0 : st ≠ some 0) : True := trivial

noncomputable abbrev scL : Scope := { kind := .function, names := [(".0", .local), ("k", .local), ("abs", .globalImplicit), ("sum", .globalImplicit), ("script", .free)], isGenerator := false, isCoroutine := false, more := [] }
noncomputable abbrev itL : Expr := .Call (.Name "range" ⟨201, 56, 201, 61⟩) [.Call (.Name "min" ⟨201, 62, 201, 65⟩) [.Call (.Name "len" ⟨201, 66, 201, 69⟩) [.Name "script" ⟨201, 70, 201, 76⟩] [] ⟨201, 66, 201, 77⟩, .Constant (.int 10) 0 ⟨201, 79, 201, 81⟩] [] ⟨201, 62, 201, 82⟩] [] ⟨201, 56, 201, 83⟩
noncomputable abbrev elL : Expr := .BinOp (.Call (.Name "abs" ⟨201, 13, 201, 16⟩) [.Call (.Name "sum" ⟨201, 17, 201, 20⟩) [.Subscript (.Name "script" ⟨201, 21, 201, 27⟩) (.Slice (some (.Name "k" ⟨201, 28, 201, 29⟩)) none (some (.Constant (.int 10) 0 ⟨201, 31, 201, 33⟩)) ⟨201, 28, 201, 33⟩) ⟨201, 21, 201, 34⟩] [] ⟨201, 17, 201, 35⟩] [] ⟨201, 13, 201, 36⟩) .Mod
  (.BinOp (.Constant (.int 10) 0 ⟨201, 39, 201, 41⟩) .Pow (.Constant (.int 4) 0 ⟨201, 45, 201, 46⟩) ⟨201, 39, 201, 46⟩) ⟨201, 13, 201, 46⟩
noncomputable abbrev eL : Expr := .ListComp elL [⟨.Name "k" ⟨201, 51, 201, 52⟩, itL, [], 0⟩] scL ⟨201, 12, 201, 84⟩
theorem turnL (D a : Addr) (env : Env) : compTurn eL 0 (.ref a) (.ref D) env = (standAt ⟨201, 56, 201, 83⟩ >>= fun _ => pyNext (.ref a) >>= fun r => match r with
      | none => pure (.done .next)
      | some v => assign (.Name "k" ⟨201, 51, 201, 52⟩) env v >>= fun _ => (do let _ ← call (.builtin "list.append") [.ref D, ← eval elL env] : Sem Unit) >>= fun _ => again (.compLoop eL 0 (.ref a) (.ref D) env)) := rfl

noncomputable def lpI (c : Cx) (k : Nat) (vs : Vs) (nw : Nw) (ys : List Value) : Prop := ∃ x1, vs = [x1] ∧ AllInt ys ∧ ys.length = k

theorem src_range {c : Cx} {pin : Pin} {vs : Vs} {nw : Nw} {s : Shared} {l : Addr} {k : Nat} {t t1 t2 : Tok} (S : St c pin vs nw s) (h : Has c nw l (rngOf k t t1 t2)) (hk : k < 1000000) : Src c s (.ref l) [] k (fun j v => ∃ t, v = .int (0 + j * 1) t) := by
  refine ⟨iter_range (S.get h).1 hk fun o st => ⟨_, [s.heap.objs.size], [s.heap.objs.size], _, _, _, rfl, rfl, Walks.range c.hh s.heap.objs.size 0 1 k, st, fun b o e => Heap.get?_push_of_some _ e, fun b hb => ?_, fun b hb => .inl hb, fun k h st b hb => ?_⟩⟩
  · rw [List.mem_singleton.mp hb]
    show _ ∧ _ < (s.heap.push _).objs.size
    rw [Heap.size_push]; exact ⟨Nat.le_refl _, Nat.lt_succ_self _⟩
  · rw [List.mem_singleton.mp hb]; exact ⟨_, st⟩

theorem glob_of {w : World} {x : Str} {v : Value} (h : (nsIn (KK w) mainGlobals x == some none && bootBuiltins x == some v && !(x == ("__name__" : Str))) = true) : GlobIs w x v := by
  rw [Bool.and_eq_true, Bool.and_eq_true] at h
  exact .inr ⟨beq_iff_eq.mp h.1.1, beq_iff_eq.mp h.1.2, by simpa using h.2⟩

/-- cells = [..]: some ints, ten at most -/
theorem do_cells {w : World} {A : Around} {L : Addr} {l : Addr} {o oc : Obj} {xs : List Value} {n : Nat} {os : OsState × Heap} {rm : Rm 0 A} {low : 261 ≤ L} {x0 x1 : Option Value} {r : List (Option Value)} {nw : Nw} {Q : Flow → Vs → Nw → Prop} (hcls : o.cls = .type "list") (hdata : o.data = .seq xs.toArray n) (hi : AllInt xs) (hlen : xs.length ≤ 63) (hoc : oc.data = .cell (some (.ref l)))
    (h : ∀ cl ys m, AllInt ys → ys.length ≤ 10 → Q .next (x0 :: some (.ref cl) :: r) ((cl, lstOf ys m) :: nw)) :
    Do (D_law_paths.cx w A L [(L + 1, oc), (l, o)] os 0 rm low) (exec (.Assign [.Name "cells" ⟨201, 4, 201, 9⟩] eL ⟨201, 4, 201, 84⟩) (callEnvC (D_law_paths.fd w) L D_law_paths.f)) Q (x0 :: x1 :: r) nw := Do.mk fun pin s S => by
  have hL : ∀ nw, HasL (D_law_paths.cx w A L [(L + 1, oc), (l, o)] os 0 rm low) nw l xs := fun nw => ⟨o, n, .inr (.tail _ (.head _)), hcls, hdata⟩
  have hk63 : min (xs.length : Int) 10 = ((min xs.length 10 : Nat) : Int) := by omega
  rw [exec_Assign_Name_used _ _ _ _ (by kernel_rfl)]
  refine wpAny_bind (wpAny_standAt (wpAny_bind ?_))
  show wpAny _ A (do let _ ← comprehension eL scL (callEnvC (D_law_paths.fd w) L D_law_paths.f) _ (newList []) false (eval itL (callEnvC (D_law_paths.fd w) L D_law_paths.f)) (some (assign (.Name "cells" ⟨201, 4, 201, 9⟩) (callEnvC (D_law_paths.fd w) L D_law_paths.f)))) _ _ s
  have hck : (callEnvC (D_law_paths.fd w) L D_law_paths.f).kindOf ("script" : Str) = some .cell := D_law_paths.hpn w
  have hcl : (callEnvC (D_law_paths.fd w) L D_law_paths.f).cells = [(("script" : Str), L + 1)] := D_law_paths.hcells w _
  refine wpAny_bind (wpAny_mono (wpAny_comprehension_free (cl := [(("script" : Str), L + 1)]) (use := some (assign (.Name "cells" ⟨201, 4, 201, 9⟩) (callEnvC (D_law_paths.fd w) L D_law_paths.f))) (Q := fun _ s' => 1 ≤ s'.toks → ∃ vs' nw', St (D_law_paths.cx w A L [(L + 1, oc), (l, o)] os 0 rm low) pin vs' nw' s' ∧ Q .next vs' nw')
    rfl (by intro _; rfl) ?_ rfl (by decide) (wpAny_mono (Do.use (Q := fun xv vs' nw' => ∃ ra t t1 t2, xv = .ref ra ∧ vs' = x0 :: x1 :: r ∧ nw' = (ra, rngOf ((min xs.length 10 : Nat) : Int) t t1 t2) :: nw) ?_ S) (fun xv s₁ h₁ => ?_) fun _ _ z => z.elim)) (fun _ s' hq => wpAny_pure (wpAny_pure hq)) fun _ _ z => z)
  · kernel_rfl
  · refine do_CallT 0 rfl ?_
    refine do_args ?_
    refine do_CallB 1 rfl ?_
    refine do_args ?_
    refine do_CallB 2 rfl ?_
    refine do_args ?_
    refine do_cellName hck (by rw [show (D_law_paths.cx w A L [(L + 1, oc), (l, o)] os 0 rm low).env.cells = _ from hcl]; rfl) (.head _) hoc ?_ (by decide +kernel)
    refine do_args0 ?_
    refine len_Lg (hL _) (by omega) fun _ => ?_
    refine do_args ?_
    refine do_int fun _ => ?_
    refine do_args0 ?_
    refine min_ii fun _ => ?_
    refine do_args0 ?_
    rw [hk63]
    exact do_range1 fun a t1 t2 => ⟨a, _, t1, t2, rfl, rfl, rfl⟩
  · obtain ⟨vs₁, nw₁, S₁, ra, t, t1, t2, rfl, rfl, rfl⟩ := h₁
    have loc : ∀ x ∈ (["k"] : List Str), (relabel scL (D_law_paths.cx w A L [(L + 1, oc), (l, o)] os 0 rm low).env).names.lookup x = some .local ∧ (x == ("__debug__" : Str)) = false := by
      intro x hx
      rw [List.mem_singleton.mp hx]; exact ⟨by kernel_rfl, rfl⟩
    have glo : ∀ p ∈ ([("abs", .builtin "abs"), ("sum", .builtin "sum")] : List (Str × Value)), (relabel scL (D_law_paths.cx w A L [(L + 1, oc), (l, o)] os 0 rm low).env).names.lookup p.1 = some .globalImplicit ∧ (p.1 == ("__debug__" : Str)) = false ∧ GlobIs w p.1 p.2 := by
      intro p hp
      rcases List.mem_cons.mp hp with rfl | hp
      · exact ⟨by kernel_rfl, rfl, glob_of (by kernel_rfl)⟩
      · rw [List.mem_singleton.mp hp]; exact ⟨by kernel_rfl, rfl, glob_of (by kernel_rfl)⟩
    have hsk : ∀ C, (compEnvC scL [(("script" : Str), L + 1)] C (D_law_paths.cx w A L [(L + 1, oc), (l, o)] os 0 rm low).env).kindOf ("script" : Str) = some .cell := fun C => by kernel_rfl
    refine comp_core (c := D_law_paths.cx w A L [(L + 1, oc), (l, o)] os 0 rm low) (scope := scL) (cl := [(("script" : Str), L + 1)]) (ks := ["k"]) (gs := [("abs", .builtin "abs"), ("sum", .builtin "sum")]) (ro := [(L + 1, oc), (l, o)]) (i := 0) (hk := rfl) (nd := by decide) (loc := loc) (glo := glo) (by decide) rfl lpI
      (fun C D => (do let _ ← call (.builtin "list.append") [.ref D, ← eval elL (compEnvC scL [(("script" : Str), L + 1)] C (D_law_paths.cx w A L [(L + 1, oc), (l, o)] os 0 rm low).env)])) (p := ⟨201, 56, 201, 83⟩) S₁ (fun p hp => S₁.get (.inr hp)) (src_range S₁ (.inl (.head _)) (by omega)) (fun C a D => turnL D a _) (fun C low' k vs nw xs hI p hp => nomatch hp) (fun C low' => ⟨none, rfl, fun v hv => (nomatch hv), rfl⟩) (fun C low' D k v vs nw ys hk hv hI => ?_)
      (Q := fun acc C => compPost (MM w) A _ (some (assign (.Name "cells" ⟨201, 4, 201, 9⟩) (callEnvC (D_law_paths.fd w) L D_law_paths.f))) _ acc C) ?_
    · obtain ⟨x1, rfl, hys, hyl⟩ := hI
      obtain ⟨tk, rfl⟩ := hv
      refine doa_emit (c := Cx.comp _ _ _ _ _ _ _ _ loc glo C low') (by omega) ?_
      refine do_BinOp ?_
      refine do_CallB 0 rfl ?_
      refine do_args ?_
      refine do_CallB 1 rfl ?_
      refine do_args ?_
      refine do_SliceLg ?_
      refine do_cellName (hsk C) rfl (.head _) hoc ?_ (by decide +kernel)
      refine do_part ?_
      refine do_loc 0 rfl rfl ?_
      refine do_part0 ?_
      refine do_part ?_
      refine do_int fun _ => ?_
      refine ⟨l, xs, some _, none, some 10, rfl, ⟨o, n, .inr (.tail _ (.head _)), hcls, hdata⟩, by constructor, by constructor, by constructor, by decide, by omega, fun a => ?_⟩
      refine do_args0 ?_
      obtain ⟨ns, hns⟩ := (hi.pick (some (0 + (k : Int) * 1)) none (some 10)).at
      refine sum_L (.inl (.head _)) hns fun _ => ?_
      refine do_args0 ?_
      refine abs_i fun _ => ?_
      refine do_BinOp ?_
      refine do_int fun _ => ?_
      refine do_int fun _ => ?_
      refine pow_10_4 fun _ => ?_
      refine mod_ii (by decide) fun _ => ?_
      refine ⟨_, rfl, fun v hv => ?_, by simp; omega⟩
      rcases List.mem_append.mp hv with hv | hv
      · exact hys v hv
      · rw [List.mem_singleton.mp hv]; exact ⟨_, _, rfl⟩
    · rintro D C low' vs' nw' ys m s' ⟨x1, rfl, hys, hyl⟩ S' hC hCo
      obtain ⟨mC, hC⟩ := hC
      obtain ⟨oC, eC, pC, hoC, rC⟩ := id hC
      have S'' : St (D_law_paths.cx w A L [(L + 1, oc), (l, o)] os 0 rm low) (fun b x => pin b x ∨ (b = C ∧ x = oC)) _ ((D, lstOf ys m) :: (ra, rngOf ((min xs.length 10 : Nat) : Int) t t1 t2) :: nw) s' := S'.pinMore (fun b x q => by
        rcases q with q | ⟨rfl, rfl⟩
        · exact .inl q
        · exact .inr ⟨hoC, hCo.l, hi_ne hCo.n, hCo.w⟩) fun b x q => .inl q
      show wpAny (MM w) A (assign (.Name "cells" ⟨201, 4, 201, 9⟩) (callEnvC (D_law_paths.fd w) L D_law_paths.f) (.ref D)) _ _ s'
      refine wpAny_mono ((do_assignName (c := D_law_paths.cx w A L [(L + 1, oc), (l, o)] os 0 rm low) (i := 1) (v := .ref D) (R := fun _ vs' nw' => vs' = x0 :: some (.ref D) :: r ∧ nw' = (D, lstOf ys m) :: (ra, rngOf ((min xs.length 10 : Nat) : Int) t t1 t2) :: nw) rfl ⟨rfl, rfl⟩).use S'') (fun _ s₃ h₃ => ?_) fun _ _ z => z.elim
      obtain ⟨_, _, S₃, rfl, rfl⟩ := h₃
      have hoC₃ := S₃.pinned C oC (.inr ⟨rfl, rfl⟩)
      refine ⟨mC, hC.at' fun x e => by rw [hoC] at e; cases e; exact hoC₃, fun h' hs' ht => ?_⟩
      have S₄ : St (D_law_paths.cx w A L [(L + 1, oc), (l, o)] os 0 rm low) pin (x0 :: some (.ref D) :: r) ((D, lstOf ys m) :: nw) s₃ := (S₃.pinLess (fun b x q => .inl q) S.ro).drop (((List.Sublist.refl nw).cons _).cons_cons _)
      refine ⟨_, _, S₄.out (wr := [C]) (fun b x hb e => hs'.extBut b x (by simpa using hb) e) (fun b hb => ?_) ht, h D ys m hys (by omega)⟩
      rw [List.mem_singleton.mp hb]
      refine ⟨hCo.l, hCo.n, hCo.p, fun p hp => hCo.w p ?_⟩
      rcases List.mem_cons.mp hp with rfl | hp
      · exact .head _
      · exact .tail _ (.tail _ hp)
end Mine
end

section
open PySem PySem.W PySem.Calls PySem.Spec PyProof.Rows PySem.SeqAt
set_option maxRecDepth 100000
set_option linter.unusedVariables false
namespace Mine

/-- between the cells: two texts of pieces -/
noncomputable def lpO (pc cl pl : Addr) (PC : Obj) (CL : Obj) (k : Nat) (vs : Vs) (nw : Nw) : Prop :=
  ∃ us ws t u n x4 x5 x6, vs = [some (.ref pc), some (.ref cl), some (.ref pl), x4, x5, x6] ∧ [(pl, lstOf [.str (S (us : List (List Nat)).flatten) t, .str (S (ws : List (List Nat)).flatten) u] n), (cl, CL), (pc, PC)].Sublist nw ∧
    (∀ x ∈ us ++ ws, x ∈ pcs) ∧ us.length + ws.length ≤ 3 * k
/-- within a cell: the words -/
noncomputable def lpW (pc cl pl wl : Addr) (PC CL PL : Obj) (x4 : Value) (m : Nat) (vs : Vs) (nw : Nw) : Prop :=
  ∃ ys ws n i t, vs = [some (.ref pc), some (.ref cl), some (.ref pl), some x4, some (.ref wl), some (.int i t)] ∧ nw = [(wl, lstOf ys n), (pl, PL), (cl, CL), (pc, PC)] ∧ Txs ys ws ∧ (∀ x ∈ ws, x ∈ pcs) ∧ m + ws.length = 3

theorem pcs_len {x : List Nat} (h : x ∈ pcs) : x.length ≤ 7 := by
  have : (pcs.all fun x => Nat.ble x.length 7) = true := by decide +kernel
  exact Nat.le_of_ble_eq_true (List.all_eq_true.mp this x h)
theorem flat_len {us : List (List Nat)} (h : ∀ x ∈ us, x ∈ pcs) : us.flatten.length ≤ 7 * us.length := by
  induction us with
  | nil => simp
  | cons x us ih =>
    have h1 := pcs_len (h x (.head _))
    have h2 := ih fun y hy => h y (.tail _ hy)
    rw [List.flatten_cons, List.length_append, List.length_cons]; omega
theorem sum_flat (us : List (List Nat)) : (us.map (·.length)).sum = us.flatten.length := by rw [List.length_flatten]
theorem joinL_nil (us : List (List Nat)) : joinL [] us = us.flatten := by
  induction us with
  | nil => rfl
  | cons a us ih =>
    cases us with
    | nil => simp [joinL]
    | cons b us =>
      show a ++ [] ++ joinL [] (b :: us) = _
      rw [ih]; simp

theorem fn_law_paths (l : Addr) (o : Obj) (xs : List Value) (n : Nat) (hcls : o.cls = .type "list") (hdata : o.data = .seq xs.toArray n) (hi : AllInt xs) (hlen : xs.length ≤ 63) : Fn 206 1 [.ref l] [(l, o)] isPaths := by
  refine Fn.ofC D_law_paths fun w A L os rm low oc hoc => ?_
  refine do_cons ?_
  refine do_Assign (i := 0) rfl ?_
  refine do_List ?_
  refine do_args ?_
  refine do_S [97] (by decide +kernel) fun t0 => ?_
  refine do_args ?_
  refine do_S [47] (by decide +kernel) fun t1 => ?_
  refine do_args ?_
  refine do_S [49] (by decide +kernel) fun t2 => ?_
  refine do_args ?_
  refine do_S [46] (by decide +kernel) fun t3 => ?_
  refine do_args ?_
  refine do_S [117, 110, 107, 110, 111, 119, 110] (by decide +kernel) fun t4 => ?_
  refine do_args ?_
  refine do_S [114, 99] (by decide +kernel) fun t5 => ?_
  refine do_args ?_
  refine do_S [32] (by decide +kernel) fun t6 => ?_
  refine do_args ?_
  refine do_S [47, 47] (by decide +kernel) fun t7 => ?_
  refine do_args ?_
  refine do_S [47, 46, 46, 47] (by decide +kernel) fun t8 => ?_
  refine do_args ?_
  refine do_S [98] (by decide +kernel) fun t9 => ?_
  refine do_args ?_
  refine do_S [48] (by decide +kernel) fun t10 => ?_
  refine do_args ?_
  refine do_S [45] (by decide +kernel) fun t11 => ?_
  refine do_args ?_
  refine do_S [40] (by decide +kernel) fun t12 => ?_
  refine do_args ?_
  refine do_S [117, 110] (by decide +kernel) fun t13 => ?_
  refine do_args ?_
  refine do_S [107, 110, 111, 119, 110] (by decide +kernel) fun t14 => ?_
  refine do_args ?_
  refine do_S [233] (by decide +kernel) fun t15 => ?_
  refine do_args0 ⟨Nat.le_of_ble_eq_true rfl, fun pc => ?_⟩
  refine Do.mono (Q := fun fl _ nw => ∃ nw', nw'.Sublist nw ∧ isPaths (retOf fl) nw') (Q' := fun fl _ nw => ∃ nw', nw'.Sublist nw ∧ isPaths (retOf fl) nw') ?_ fun _ _ _ q => q
  obtain ⟨P, hP, htx⟩ : ∃ P, P = [.str (S [97]) t0, .str (S [47]) t1, .str (S [49]) t2, .str (S [46]) t3, .str (S [117, 110, 107, 110, 111, 119, 110]) t4, .str (S [114, 99]) t5, .str (S [32]) t6, .str (S [47, 47]) t7, .str (S [47, 46, 46, 47]) t8, .str (S [98]) t9, .str (S [48]) t10, .str (S [45]) t11, .str (S [40]) t12, .str (S [117, 110]) t13, .str (S [107, 110, 111, 119, 110]) t14, .str (S [233]) t15] ∧ Txs P pcs := by
    refine ⟨_, rfl, ?_⟩
    unfold pcs
    repeat (first | exact All2.nil | refine All2.cons ⟨_, rfl⟩ ?_)
  rw [← hP]
  clear hP
  refine do_cons ?_
  refine do_cells hcls hdata hi hlen hoc fun cl ys m hys hyl => ?_
  refine do_thenQ (fun vs nw => ∃ cl ys m, vs = [some (.ref pc), some (.ref cl), none, none, none, none] ∧ [(cl, lstOf ys m), (pc, lstOf P 0)].Sublist nw ∧ AllInt ys ∧ ys.length ≤ 10) ?_ ?_
  · refine do_If ?_
    refine tr_Not ?_
    refine tr_val ?_
    refine do_loc 1 rfl rfl ?_
    refine truthy_L (.inl (.head _)) (by omega) ⟨fun hT => ?_, fun hF => ?_⟩
    · refine do_cons ?_
      refine do_Assign (i := 1) rfl ?_
      refine do_List ?_
      refine do_args ?_
      refine do_int fun _ => ?_
      refine do_args ?_
      refine do_int fun _ => ?_
      refine do_args ?_
      refine do_int fun _ => ?_
      refine do_args ?_
      refine do_int fun _ => ?_
      refine do_args0 ⟨Nat.le_of_ble_eq_true rfl, fun cl2 => ?_⟩
      refine do_nil ?_
      refine ⟨cl2, _, _, rfl, ((List.Sublist.refl _).cons _).cons_cons _, fun v hv => ?_, Nat.le_of_ble_eq_true rfl⟩
      rcases List.mem_cons.mp hv with rfl | hv
      · exact ⟨_, _, rfl⟩
      rcases List.mem_cons.mp hv with rfl | hv
      · exact ⟨_, _, rfl⟩
      rcases List.mem_cons.mp hv with rfl | hv
      · exact ⟨_, _, rfl⟩
      · rw [List.mem_singleton.mp hv]; exact ⟨_, _, rfl⟩
    · refine do_nil ?_
      exact ⟨cl, ys, m, rfl, List.Sublist.refl _, hys, hyl⟩
  clear hys hyl
  rintro vs nw ⟨cl, ys, m, rfl, hsub, hys, hyl⟩
  refine Do.drop ?_ hsub
  refine do_cons ?_
  refine do_Assign (i := 2) rfl ?_
  refine do_List ?_
  refine do_args ?_
  refine do_S [] (by decide +kernel) fun _ => ?_
  refine do_args ?_
  refine do_S [] (by decide +kernel) fun _ => ?_
  refine do_args0 ⟨Nat.le_of_ble_eq_true rfl, fun pl => ?_⟩
  refine do_thenQ (fun vs nw => ∃ k, k ≤ 10 ∧ lpO pc cl pl (lstOf P 0) (lstOf ys m) k vs nw) ?_ ?_
  · refine do_For ?_
    refine do_loc 1 rfl rfl ?_
    refine for_list (i := 3) rfl (lpO pc cl pl (lstOf P 0) (lstOf ys m)) ⟨[], [], _, _, _, _, _, _, rfl, List.Sublist.refl _, fun x hx => (nomatch hx), Nat.le_refl _⟩ (.inl (.tail _ (.head _))) (fun k vs nw hI => ?_) (fun k v vs nw hv hI => ?_) fun vs nw hI => ⟨ys.length, hyl, hI⟩
    · obtain ⟨us, ws, t, u, n, x4, x5, x6, rfl, hsub, _⟩ := hI
      exact .inl (hsub.subset (.tail _ (.head _)))
    · obtain ⟨us, ws, t, u, n, x4, x5, x6, rfl, hsub, hmem, hcnt⟩ := hI
      have hk : k < ys.length := (List.getElem?_eq_some_iff.mp hv).1
      obtain ⟨i, ti, rfl⟩ := hys v (List.mem_of_getElem? hv)
      refine Do.drop ?_ hsub
      refine do_cons ?_
      refine do_Assign (i := 4) rfl ?_
      refine do_List ?_
      refine do_args0 ⟨Nat.le_of_ble_eq_true rfl, fun wl => ?_⟩
      refine do_cons ?_
      refine do_Assign (i := 5) rfl ?_
      refine do_BinOp ?_
      refine do_loc 3 rfl rfl ?_
      refine do_int fun _ => ?_
      refine fdiv_ii (by decide) (by decide) fun t6 => ?_
      obtain ⟨PL, hPL⟩ : ∃ PL, PL = lstOf [.str (S us.flatten) t, .str (S ws.flatten) u] n := ⟨_, rfl⟩
      rw [← hPL]
      refine do_thenQ (fun vs nw => ∃ q, lpW pc cl pl wl (lstOf P 0) (lstOf ys m) PL (.int i ti) q vs nw) ?_ ?_
      · refine do_While (lpW pc cl pl wl (lstOf P 0) (lstOf ys m) PL (.int i ti)) 3 ⟨[], [], 0, _, _, rfl, rfl, All2.nil, fun x hx => (nomatch hx), rfl⟩ ?_
        rintro q vs nw ⟨zs, vs', n', j, tj, rfl, rfl, hzs, hw, hq⟩
        have hzl := hzs.len
        refine tr_BoolOp ?_
        refine tr_and ?_
        refine tr_Compare ?_
        refine do_loc 5 rfl rfl ?_
        refine do_int fun _ => ?_
        refine gt_ii ⟨_, rfl, fun hT => ?_, fun hF => ⟨fun h => (nomatch h), fun _ => ⟨q, zs, vs', n', j, tj, rfl, rfl, hzs, hw, hq⟩⟩⟩
        refine tr_and ?_
        refine tr_Compare ?_
        refine do_CallB 2 rfl ?_
        refine do_args ?_
        refine do_loc 4 rfl rfl ?_
        refine do_args0 ?_
        refine len_L (.inl (.head _)) (by omega) fun _ => ?_
        refine do_int fun _ => ?_
        refine lt_ii ⟨_, rfl, fun hT2 => tr_and0 ⟨fun _ => ?_, fun h => (nomatch h)⟩, fun hF => ⟨fun h => (nomatch h), fun _ => ⟨q, zs, vs', n', j, tj, rfl, rfl, hzs, hw, hq⟩⟩⟩
        have hT2' := of_decide_eq_true hT2
        refine do_cons ?_
        refine do_Aug (i := 5) rfl rfl ?_
        refine do_int fun _ => ?_
        refine isub_ii fun _ => ?_
        refine do_cons ?_
        refine do_Expr ?_
        refine do_Meth F.plainAttrs_list F.slot_list_append F.type_list_append ?_
        refine do_loc 4 rfl rfl ?_
        refine ⟨OfType.list (.inl (.head _)), ?_⟩
        refine do_args ?_
        refine do_Sub ?_
        refine do_loc 0 rfl rfl ?_
        refine do_BinOp ?_
        refine do_loc 5 rfl rfl ?_
        refine do_int fun _ => ?_
        refine mod_ii (by decide) fun _ => ?_
        obtain ⟨r, hr, hr16⟩ : ∃ r : Nat, (j - 1).fmod 16 = r ∧ r < 16 := by
          have h1 := Int.fmod_nonneg_of_pos (j - 1) (show (0 : Int) < 16 by decide)
          have h2 := Int.fmod_lt_of_pos (j - 1) (show (0 : Int) < 16 by decide)
          exact ⟨((j - 1).fmod 16).toNat, by omega, by omega⟩
        have hpl : P.length = 16 := by rw [htx.len]; rfl
        obtain ⟨a, ta, hta, hPa⟩ := htx.get (List.getElem?_eq_getElem (show r < P.length by omega))
        refine item_L hr (.inl (.tail _ (.tail _ (.tail _ (.head _))))) ((List.getElem?_eq_getElem (show r < P.length by omega)).trans (congrArg some hPa)) (by omega) ?_
        refine do_args0 ?_
        refine m_append (k := 0) rfl (by omega) (ret_none ?_)
        refine do_cons ?_
        refine do_Aug (i := 5) rfl rfl ?_
        refine do_int fun _ => ?_
        refine ifdiv_ii (by decide) (by decide) fun _ => ?_
        refine do_nil ?_
        refine ⟨q - 1, by omega, zs ++ [.str (S a) ta], vs' ++ [a], _, _, _, rfl, rfl, hzs.snoc, fun x hx => ?_, by rw [List.length_append, List.length_singleton]; omega⟩
        rcases List.mem_append.mp hx with hx | hx
        · exact hw x hx
        · rw [List.mem_singleton.mp hx]; exact List.mem_of_getElem? hta
      · rintro vs nw ⟨q, zs, vs', n', j, tj, rfl, rfl, hzs, hw, hq⟩
        subst hPL
        have hzl := hzs.len
        have hfu := flat_len (us := us) fun x hx => hmem x (List.mem_append_left _ hx)
        have hfw := flat_len (us := ws) fun x hx => hmem x (List.mem_append_right _ hx)
        have hfz := flat_len hw
        have hkt : k < 10 := by omega
        obtain ⟨r, hr, hr2⟩ : ∃ r : Nat, i.fmod 2 = r ∧ r < 2 := by
          have h1 := Int.fmod_nonneg_of_pos i (show (0 : Int) < 2 by decide)
          have h2 := Int.fmod_lt_of_pos i (show (0 : Int) < 2 by decide)
          exact ⟨(i.fmod 2).toNat, by omega, by omega⟩
        refine do_cons ?_
        refine do_AugItem ?_
        refine do_loc 2 rfl rfl ?_
        refine do_BinOp ?_
        refine do_loc 3 rfl rfl ?_
        refine do_int fun _ => ?_
        refine mod_ii (by decide) fun t2 => ?_
        have old : ∃ a ta, ([.str (S us.flatten) t, .str (S ws.flatten) u] : List Value)[r]? = some (.str (S a) ta) ∧ a.length ≤ 210 ∧
            ∀ t3 n2, lpO pc cl pl (lstOf P 0) (lstOf ys m) (k + 1) [some (.ref pc), some (.ref cl), some (.ref pl), some (.int i ti), some (.ref wl), some (.int j tj)]
              [(wl, lstOf zs n'), (pl, lstOf (([.str (S us.flatten) t, .str (S ws.flatten) u] : List Value).set r (.str (S (a ++ vs'.flatten)) t3)) n2), (cl, lstOf ys m), (pc, lstOf P 0)] := by
          have h01 : r = 0 ∨ r = 1 := by omega
          rcases h01 with rfl | rfl
          · refine ⟨us.flatten, t, rfl, by omega, fun t3 n2 => ⟨us ++ vs', ws, t3, u, n2, _, _, _, rfl, ?_, fun x hx => ?_, by rw [List.length_append]; omega⟩⟩
            · rw [List.flatten_append]; exact (List.Sublist.refl _).cons _
            · rcases List.mem_append.mp hx with hx | hx
              · rcases List.mem_append.mp hx with hx | hx
                · exact hmem x (List.mem_append_left _ hx)
                · exact hw x hx
              · exact hmem x (List.mem_append_right _ hx)
          · refine ⟨ws.flatten, u, rfl, by omega, fun t3 n2 => ⟨us, ws ++ vs', t, t3, n2, _, _, _, rfl, ?_, fun x hx => ?_, by rw [List.length_append]; omega⟩⟩
            · rw [List.flatten_append]; exact (List.Sublist.refl _).cons _
            · rcases List.mem_append.mp hx with hx | hx
              · exact hmem x (List.mem_append_left _ hx)
              · rcases List.mem_append.mp hx with hx | hx
                · exact hmem x (List.mem_append_right _ hx)
                · exact hw x hx
        obtain ⟨a, ta, ha, hal, fin⟩ := old
        refine ⟨pl, _, _, r, t2, 1, _, rfl, by rw [hr], rfl, ha, Nat.le_of_ble_eq_true rfl, ?_⟩
        refine do_Meth F.plainAttrs_str F.slot_str_join F.type_str_join ?_
        refine do_S [] (by decide +kernel) fun _ => ?_
        refine ⟨.str, ?_⟩
        refine do_args ?_
        refine do_loc 4 rfl rfl ?_
        refine do_args0 ?_
        refine m_join (.inl (.head _)) hzs (by rw [sum_flat, List.length_nil, Nat.mul_zero]; omega) fun _ => ⟨rfl, ?_⟩
        rw [joinL_nil]
        refine iadd_ss (by omega) fun t3 => ⟨rfl, fun n2 => ?_⟩
        refine do_nil ?_
        exact fin t3 n2
  · rintro vs nw ⟨k, hk, us, ws, t, u, n, x4, x5, x6, rfl, hsub, hmem, hcnt⟩
    refine do_cons ?_
    refine do_Return ?_
    refine do_loc 2 rfl rfl ?_
    refine ⟨_, (List.Sublist.trans ((List.nil_sublist _).cons_cons _) hsub), _, _, _, _, _, _, rfl, rfl, us, ws, hmem, by omega, rfl, rfl⟩
end Mine
end

section
set_option maxRecDepth 100000
set_option linter.unusedVariables false
namespace Mine

/-! a word's stage is its rank, but for "c" -/
theorem stage_rank {w : List Nat} (hne : w ≠ [99]) (hl : ∀ c ∈ w, c ∈ letters) : stageOf w = rankOf w := by
  by_cases h1 : w = [97]
  · subst h1; decide
  by_cases h2 : w = [98]
  · subst h2; decide
  by_cases h3 : w = [114, 99]
  · subst h3; decide
  have hr : rankOf w = 0 := by unfold rankOf; rw [if_neg h1, if_neg h2, if_neg h3]
  rw [hr]
  unfold stageOf
  have hn : stageT.find? (fun p => p.1 == w) = none := by
    rw [List.find?_eq_none]
    intro p hp he
    have k : (stageT.all fun p => p.1 == [97] || p.1 == [98] || p.1 == [114, 99] || p.1 == [99] || p.1.any fun c => !decide (c ∈ letters)) = true := by decide
    have := List.all_eq_true.mp k p hp
    rw [beq_iff_eq.mp he] at this
    simp only [Bool.or_eq_true, beq_iff_eq, List.any_eq_true, Bool.not_eq_true', decide_eq_false_iff_not] at this
    rcases this with (((h | h) | h) | h) | ⟨c, hc, hcl⟩
    · exact h1 h
    · exact h2 h
    · exact h3 h
    · exact hne h
    · exact hcl (hl c hc)
  rw [hn]; rfl

/-- every "c" stands behind an "r" -/
noncomputable def good : Nat → List Nat → Prop
  | _, [] => True
  | p, c :: r => (c = 99 → p = 114) ∧ good c r
theorem good_ne {p q : Nat} {l : List Nat} (h : good q l) (hq : q ≠ 114) : good p l := by
  cases l with
  | nil => trivial
  | cons c r => exact ⟨fun e => absurd (h.1 e) hq, h.2⟩
theorem good_app : ∀ {u v : List Nat} {p : Nat}, good p u → (∀ q, good q v) → good p (u ++ v)
  | [], _, _, _, hv => hv _
  | _ :: _, _, _, hu, hv => ⟨hu.1, good_app hu.2 hv⟩
theorem good_map : ∀ {l : List Nat} {p : Nat}, good p l → good (mapC p) (l.map mapC)
  | [], _, _ => trivial
  | c :: r, p, h => by
    refine ⟨fun e => ?_, good_map h.2⟩
    have hc : c = 99 := by
      unfold mapC at e
      split at e
      · exact absurd e (by decide)
      · split at e
        · exact absurd e (by decide)
        · exact e
    rw [h.1 hc]; decide
theorem good_repl : ∀ (n : Nat) (l : List Nat) (p : Nat), l.length ≤ n → good p l → good p (replaceL unk [] l)
  | _, [], _, _, _ => trivial
  | 0, _ :: _, _, h, _ => by simp at h
  | n + 1, c :: r, p, h, hg => by
    simp only [List.length_cons] at h
    by_cases hp : unk <+: c :: r
    · obtain ⟨q, hq⟩ := hp
      have hl : q.length ≤ n := by
        have h1 := congrArg List.length hq
        simp [unk] at h1
        omega
      rw [← hq] at hg ⊢
      rw [replaceL_hit unk_ne, List.nil_append]
      have h2 : good 110 q := hg.2.2.2.2.2.2.2
      exact good_ne (good_repl n q 110 hl h2) (by decide)
    · rw [replaceL_miss unk_ne hp]
      exact ⟨hg.1, good_repl n r c (by omega) hg.2⟩
theorem good_dw {g : Nat → Bool} : ∀ {l : List Nat} {p : Nat}, good p l → ∃ q, (q = p ∨ g q = true) ∧ good q (l.dropWhile g)
  | [], p, _ => ⟨p, .inl rfl, trivial⟩
  | c :: r, p, h => by
    rw [List.dropWhile_cons]
    split
    · rename_i hc
      obtain ⟨q, hq, hg⟩ := good_dw (g := g) h.2
      exact ⟨q, .inr (hq.elim (fun e => e ▸ hc) id), hg⟩
    · exact ⟨p, .inl rfl, h⟩
theorem tk_noc : ∀ (n : Nat) (l : List Nat), l.length ≤ n → good 0 l → Sum.inr [99] ∉ tk l
  | _, [], _, _ => by simp [tk_nil]
  | 0, _ :: _, h, _ => by simp at h
  | n + 1, c :: r, h, hg => by
    simp only [List.length_cons] at h
    rcases kinds c with hc | ⟨hc, hd⟩ | hc
    · rw [tk_dig hc]
      intro hm
      rcases List.mem_cons.mp hm with e | hm
      · cases e
      · obtain ⟨q, hq, hg'⟩ := good_dw (g := isDig) hg.2
        have hq' : q ≠ 114 := by
          rintro rfl
          rcases hq with e | e
          · rw [← e] at hc; exact absurd hc (by decide)
          · exact absurd e (by decide)
        exact tk_noc n _ (by have := dw_len isDig r; omega) (good_ne hg' hq') hm
    · rw [tk_sep hc hd]
      have hq : c ≠ 114 := by rintro rfl; exact absurd hc (by decide)
      exact tk_noc n r (by omega) (good_ne hg.2 hq)
    · rw [tk_wd hc]
      intro hm
      rcases List.mem_cons.mp hm with e | hm
      · injection e with e
        injection e with e _
        exact absurd (hg.1 e.symm) (by decide)
      · obtain ⟨q, _, hg'⟩ := good_dw (g := isWd) hg.2
        refine tk_noc n _ (by have := dw_len isWd r; omega) ?_ hm
        cases hd : r.dropWhile isWd with
        | nil => trivial
        | cons s t =>
          rw [hd] at hg'
          refine ⟨fun e => ?_, hg'.2⟩
          have := List.head?_dropWhile_not isWd r
          rw [hd, e] at this
          exact absurd (show isWd 99 = false from this) (by decide)
theorem tk_chars : ∀ (n : Nat) (l : List Nat), l.length ≤ n → ∀ w, Sum.inr w ∈ tk l → ∀ c ∈ w, isWd c = true ∧ c ∈ l
  | _, [], _ => fun w hw => by simp [tk_nil] at hw
  | 0, _ :: _, h => by simp at h
  | n + 1, c :: r, h => by
    simp only [List.length_cons] at h
    intro w hw x hx
    rcases kinds c with hc | ⟨hc, hd⟩ | hc
    · rw [tk_dig hc] at hw
      rcases List.mem_cons.mp hw with e | hm
      · cases e
      · have := tk_chars n _ (by have := dw_len isDig r; omega) w hm x hx
        exact ⟨this.1, .tail _ ((List.dropWhile_sublist _).subset this.2)⟩
    · rw [tk_sep hc hd] at hw
      have := tk_chars n r (by omega) w hw x hx
      exact ⟨this.1, .tail _ this.2⟩
    · rw [tk_wd hc] at hw
      rcases List.mem_cons.mp hw with e | hm
      · injection e with e
        subst e
        rcases List.mem_cons.mp hx with rfl | hx
        · exact ⟨hc, .head _⟩
        · exact ⟨tw_mem x hx, .tail _ ((List.takeWhile_sublist _).subset hx)⟩
      · have := tk_chars n _ (by have := dw_len isWd r; omega) w hm x hx
        exact ⟨this.1, .tail _ ((List.dropWhile_sublist _).subset this.2)⟩

/-- tokens that are read alike by the program and by the law -/
noncomputable def Fine (ks : List Tk) : Prop := ∀ w, Sum.inr w ∈ ks → w ≠ [99] ∧ ∀ c ∈ w, c ∈ letters
noncomputable def toldItem (t : Tk) : List (Int ⊕ List Nat) := [.inl (pairOf t).1, (pairOf t).2]
theorem told_eq (a : List Nat) : flatP (rowOf a) = (tk a).flatMap toldItem := by
  unfold flatP rowOf
  rw [List.flatMap_map]; rfl
theorem fine_eq {ks : List Tk} (h : Fine ks) : ks.flatMap tkItem = ks.flatMap toldItem := by
  induction ks with
  | nil => rfl
  | cons t ks ih =>
    rw [List.flatMap_cons, List.flatMap_cons, ih fun w hw => h w (.tail _ hw)]
    congr 1
    cases t with
    | inl d => rfl
    | inr w =>
      have := h w (.head _)
      show ([.inl (stageOf w), .inr w] : List (Int ⊕ List Nat)) = [.inl (rankOf w), .inr w]
      rw [stage_rank this.1 this.2]
theorem fine_K {a : List Nat} (ha : Al a) (hg : good 0 a) : Fine (K a) := by
  intro w hw
  unfold K at hw
  refine ⟨?_, fun c hc => ?_⟩
  · rintro rfl
    have h1 := good_map hg
    have h2 := good_repl _ _ _ (Nat.le_refl _) h1
    exact tk_noc _ _ (Nat.le_refl _) h2 hw
  · obtain ⟨h1, h2⟩ := tk_chars _ _ (Nat.le_refl _) w hw c hc
    refine am_wd ?_ h1
    obtain ⟨d, hd, rfl⟩ := List.mem_map.mp (repl_mem _ _ c h2)
    have k : (alpha.all fun d => decide (mapC d ∈ alphaM)) = true := by decide
    exact of_decide_eq_true (List.all_eq_true.mp k d (ha d hd))

theorem pcs_good {x : List Nat} (h : x ∈ pcs) : ∀ q, good q x := by
  intro q
  unfold pcs at h
  simp only [List.mem_cons, List.not_mem_nil, or_false] at h
  rcases h with rfl | rfl | rfl | rfl | rfl | rfl | rfl | rfl | rfl | rfl | rfl | rfl | rfl | rfl | rfl | rfl <;> simp [good]
theorem flat_good {us : List (List Nat)} (h : ∀ x ∈ us, x ∈ pcs) : ∀ q, good q us.flatten := by
  induction us with
  | nil => intro q; trivial
  | cons x us ih =>
    intro q
    rw [List.flatten_cons]
    exact good_app (pcs_good (h x (.head _)) q) (ih fun y hy => h y (.tail _ hy))
theorem flat_al {us : List (List Nat)} (h : ∀ x ∈ us, x ∈ pcs) : Al us.flatten := by
  intro c hc
  obtain ⟨x, hx, hc⟩ := List.mem_flatten.mp hc
  have k : (pcs.all fun x => x.all fun c => decide (c ∈ alpha)) = true := by decide
  have := List.all_eq_true.mp k x (h x hx)
  exact of_decide_eq_true (List.all_eq_true.mp this c hc)
end Mine
end

section
open PySem PySem.W PySem.Calls PySem.Spec PyProof.Rows PySem.SeqAt
set_option maxRecDepth 100000
set_option linter.unusedVariables false
namespace Mine

/-- a try whose body goes on -/
theorem do_TryQ {c : Cx} {vs : Vs} {nw : Nw} {body : List Stmt} {h₀ : ExceptHandler} {hs : List ExceptHandler} {pos : Pos} {Q : Flow → Vs → Nw → Prop} (h : Do c (execs body c.env) (fun f vs nw => f = .next ∧ Q .next vs nw) vs nw) :
    Do c (exec (.Try body (h₀ :: hs) [] [] pos) c.env) Q vs nw := Do.mk fun pin s S => by
  rw [arm_exec_Try]
  refine wpAny_bind (wpAny_standAt ?_)
  unfold tryStmt
  simp only [List.isEmpty_nil, if_true, List.isEmpty_cons, Bool.false_and, Bool.false_eq_true, if_false]
  refine wpAny_bind (wpAny_attempt (wpAny_mono (h.use S) (fun f s₁ h₁ => ?_) fun _ _ x => x.elim))
  obtain ⟨vs', nw', S', rfl, hJ⟩ := h₁
  exact wpAny_execs_nil fun _ => ⟨vs', nw', S', hJ⟩

noncomputable def joinOf (a b : List Nat) : List Nat := if b.head? == some 47 || a.isEmpty then b else if a.getLast? == some 47 then a ++ b else a ++ ([47] ++ b)
noncomputable def jnI (tp : Addr) (a b : List Nat) (k : Nat) (vs : Vs) (nw : Nw) : Prop := ∃ t u v x, vs = [some (.str (S a) t), some (.ref tp), some (.str (S [47]) u), some (.str (S (if k = 0 then a else joinOf a b)) v), x] ∧ nw = []

noncomputable def D_join : Fd := mkFd 166 ["a", "p", "sep", "path", "b"] [("fspath", .ref 131), ("_get_sep", .ref 152)] (by intro w; kernel_rfl)
theorem fn_join (a b : List Nat) (t u : Tok) (ha : a.length ≤ 100000) (hb : b.length ≤ 100000) : Fn 166 2 [.str (S a) t, .str (S b) u] [] (isStr (joinOf a b)) := by
  refine Fn.ofV D_join (fixed := [.str (S a) t]) (rest := [.str (S b) u]) (m := 3) (Nat.le_of_ble_eq_true rfl) rfl (fun w => by kernel_rfl) fun w A L os rm low tp => ?_
  refine do_cons ?_
  refine do_Assign (i := 0) rfl ?_
  refine do_CallF D_fspath 0 rfl ?_
  refine do_args ?_
  refine do_loc 0 rfl rfl ?_
  refine do_args0 ?_
  refine do_ret_str (fn_fspath _ _) rfl fun _ => ?_
  refine do_cons ?_
  refine do_Assign (i := 2) rfl ?_
  refine do_CallF D_get_sep 1 rfl ?_
  refine do_args ?_
  refine do_loc 0 rfl rfl ?_
  refine do_args0 ?_
  refine do_ret_str (fn_get_sep _ _) rfl fun _ => ?_
  refine do_cons ?_
  refine do_Assign (i := 3) rfl ?_
  refine do_loc 0 rfl rfl ?_
  refine do_then (fun vs nw => jnI tp a b 1 vs nw) ?_ ?_
  · refine do_TryQ ?_
    refine do_cons ?_
    refine do_For ?_
    refine do_loc 1 rfl rfl ?_
    refine for_tuple (i := 4) (xs := [.str (S b) u]) rfl (jnI tp a b) ⟨_, _, _, _, rfl, rfl⟩ (.inr (.head _)) (fun k vs nw hI => .inr (.head _)) (fun k v vs nw hv hI => ?_) fun vs nw hI => ?_
    · have hk : k = 0 ∧ v = .str (S b) u := by
        cases k with
        | zero => exact ⟨rfl, by simpa using hv.symm⟩
        | succ k => simp at hv
      obtain ⟨rfl, rfl⟩ := hk
      obtain ⟨t1, t2, t3, x, rfl, rfl⟩ := hI
      rw [if_pos rfl]
      refine do_cons ?_
      refine do_Assign (i := 4) rfl ?_
      refine do_CallF D_fspath 0 rfl ?_
      refine do_args ?_
      refine do_loc 4 rfl rfl ?_
      refine do_args0 ?_
      refine do_ret_str (fn_fspath _ _) rfl fun _ => ?_
      refine do_cons ?_
      refine do_IfB (b.head? == some 47 || a.isEmpty) ?_ (fun h1 => ?_) (fun h1 => ?_)
      · refine tr_BoolOp ?_
        refine tr_orB (b.head? == some 47) ?_ (fun hT => ?_) (fun hF => ?_)
        · refine tr_val ?_
          refine do_Meth F.plainAttrs_str F.slot_str_startswith F.type_str_startswith ?_
          refine do_loc 4 rfl rfl ?_
          refine ⟨.str, ?_⟩
          refine do_args ?_
          refine do_loc 2 rfl rfl ?_
          refine do_args0 ?_
          refine m_startswith ?_
          exact truthy_bool ⟨rfl, rfl, rfl⟩
        · exact ⟨by rw [hT]; rfl, rfl, rfl⟩
        · refine tr_or ?_
          refine tr_Not ?_
          refine tr_val ?_
          refine do_loc 3 rfl rfl ?_
          refine truthy_s (by omega) ?_
          rw [Bool.not_not]
          refine ⟨fun hT => ⟨by rw [hF, hT]; rfl, rfl, rfl⟩, fun hT => tr_or0 ⟨by rw [hF, hT]; rfl, rfl, rfl⟩⟩
      · refine do_cons ?_
        refine do_Assign (i := 3) rfl ?_
        refine do_loc 4 rfl rfl ?_
        refine do_nil ?_
        refine do_nil ?_
        have e : joinOf a b = b := by unfold joinOf; rw [if_pos h1]
        exact ⟨_, _, _, _, by rw [if_neg (by decide), e]; rfl, rfl⟩
      · refine do_cons ?_
        refine do_IfB (a.getLast? == some 47) ?_ (fun h2 => ?_) (fun h2 => ?_)
        · refine tr_val ?_
          refine do_Meth F.plainAttrs_str F.slot_str_endswith F.type_str_endswith ?_
          refine do_loc 3 rfl rfl ?_
          refine ⟨.str, ?_⟩
          refine do_args ?_
          refine do_loc 2 rfl rfl ?_
          refine do_args0 ?_
          refine m_endswith ?_
          exact truthy_bool ⟨rfl, rfl, rfl⟩
        · refine do_cons ?_
          refine do_Aug (i := 3) rfl rfl ?_
          refine do_loc 4 rfl rfl ?_
          refine iadd_ss (by omega) fun _ => ?_
          refine do_nil ?_
          refine do_nil ?_
          refine do_nil ?_
          have e : joinOf a b = a ++ b := by unfold joinOf; rw [if_neg (by rw [h1]; decide), if_pos h2]
          exact ⟨_, _, _, _, by rw [if_neg (by decide), e]; rfl, rfl⟩
        · refine do_cons ?_
          refine do_Aug (i := 3) rfl rfl ?_
          refine do_BinOp ?_
          refine do_loc 2 rfl rfl ?_
          refine do_loc 4 rfl rfl ?_
          refine add_ss (by simp; omega) fun _ => ?_
          refine iadd_ss (by simp; omega) fun _ => ?_
          refine do_nil ?_
          refine do_nil ?_
          refine do_nil ?_
          have e : joinOf a b = a ++ ([47] ++ b) := by unfold joinOf; rw [if_neg (by rw [h1]; decide), if_neg (by rw [h2]; decide)]
          exact ⟨_, _, _, _, by rw [if_neg (by decide), e]; rfl, rfl⟩
    · refine do_nil ?_
      exact ⟨rfl, rfl, hI⟩
  · rintro vs nw ⟨t1, t2, t3, x, rfl, rfl⟩
    refine do_cons ?_
    refine do_Return ?_
    refine do_loc 3 rfl rfl ?_
    exact ⟨[], List.nil_sublist _, ⟨_, rfl⟩, rfl⟩
end Mine
end

section
set_option maxRecDepth 100000
set_option linter.unusedVariables false
namespace Mine

/-! names and splits -/
theorem slash_sep : sepC 47 = true := rfl
theorem dot_sep : sepC 46 = true := rfl
theorem K_split : ∀ (n : Nat) (a : List Nat), a.length ≤ n → (splitC 47 a).flatMap K = K a
  | _, [], _ => rfl
  | 0, _ :: _, h => by simp at h
  | n + 1, c :: r, h => by
    by_cases hm : 47 ∈ c :: r
    · obtain ⟨p, q, e, hp⟩ := List.eq_append_cons_of_mem hm
      have hl : q.length ≤ n := by
        have := congrArg List.length e
        simp at this h
        omega
      rw [e, splitC_at p hp, List.flatMap_cons, K_split n q hl, K_cut slash_sep]
    · rw [splitC_free hm]; simp
noncomputable def nms (a : List Nat) : List (List Nat) := (splitC 47 a).filter ne0
theorem nm_fold : ∀ (l : List Nat) (ns : List (List Nat)) (cur : List Nat), 47 ∉ cur → ((l ++ [47]).foldl nmStep (ns, cur)).1 = ns ++ (splitC 47 (cur ++ l)).filter ne0
  | [], ns, cur, hc => by
    rw [List.append_nil, splitC_free hc]
    by_cases h : cur = []
    · subst h; simp [nmStep, ne0]
    · have h2 : ne0 cur = true := by unfold ne0; simpa using h
      simp [nmStep, h, h2]
  | d :: l, ns, cur, hc => by
    rw [List.cons_append, List.foldl_cons]
    by_cases hd : d = 47
    · subst hd
      rw [splitC_at cur hc]
      by_cases h : cur = []
      · subst h
        have e : nmStep (ns, []) 47 = (ns, []) := by simp [nmStep]
        rw [e, nm_fold l ns [] (by simp)]
        simp [List.filter_cons, ne0]
      · have h2 : ne0 cur = true := by unfold ne0; simpa using h
        have e : nmStep (ns, cur) 47 = (ns ++ [cur], []) := by simp [nmStep, h]
        rw [e, nm_fold l _ [] (by simp)]
        simp [List.filter_cons, h2]
    · have e : nmStep (ns, cur) d = (ns, cur ++ [d]) := by simp [nmStep, hd]
      rw [e, nm_fold l ns (cur ++ [d]) (by simp; exact ⟨hc, fun q => hd q.symm⟩)]
      simp
theorem names_eq (a : List Nat) : namesOf a = nms a := by
  unfold namesOf nms
  rw [nm_fold a [] [] (by simp)]; rfl
theorem K_names (a : List Nat) : (namesOf a).flatMap K = K a := by
  rw [names_eq]
  unfold nms
  rw [flat_ne0, K_split _ _ (Nat.le_refl _)]

/-! dirname, basename, the ending -/
theorem cutLast_cases (a : List Nat) : (∃ p q, a = p ++ 47 :: q ∧ 47 ∉ q ∧ cutLast 47 a = (p ++ [47], q)) ∨ (47 ∉ a ∧ cutLast 47 a = ([], a)) := by
  by_cases h : 47 ∈ a
  · obtain ⟨p, q, rfl, hq⟩ := last_split h
    exact .inl ⟨p, q, rfl, hq, cutLast_at p hq⟩
  · exact .inr ⟨h, cutLast_free h⟩
theorem K_rt (l : List Nat) : K (rtrim (· == 47) l) = K l := K_rtrim l fun c _ h => by rw [beq_iff_eq.mp h]; rfl
theorem K_head (a : List Nat) : K (headOf a) = K (cutLast 47 a).1 := by
  unfold headOf
  split
  · rfl
  · exact K_rt _
theorem K_headtail (a : List Nat) : K (headOf a) ++ K (tailOf a) = K a := by
  rw [K_head]
  unfold tailOf
  rcases cutLast_cases a with ⟨p, q, rfl, hq, e⟩ | ⟨h, e⟩
  · rw [e, K_snoc slash_sep, K_cut slash_sep]
  · rw [e, K_nil]; rfl
theorem K_ext {x y : List Nat} (h : y = [] ∨ y.head? = some 46) : K x ++ K y = K (x ++ y) := by
  rcases h with rfl | h
  · rw [K_nil, List.append_nil, List.append_nil]
  · cases y with
    | nil => cases h
    | cons c r =>
      have hc : c = 46 := by simpa using h
      subst hc
      rw [K_cut dot_sep, K_cons dot_sep]
theorem K_joinOf (a b : List Nat) : K (joinOf a b) = if b.head? == some 47 || a.isEmpty then K b else K a ++ K b := by
  unfold joinOf
  split
  · rfl
  · rename_i h
    split
    · rename_i h2
      have hne : a ≠ [] := by rintro rfl; simp at h
      have e : a = a.dropLast ++ [47] := by
        conv => lhs; rw [← List.dropLast_concat_getLast hne]
        rw [List.getLast?_eq_some_getLast hne] at h2
        rw [show a.getLast hne = 47 from by simpa using h2]
      rw [e, List.append_assoc, List.singleton_append, K_cut slash_sep, K_snoc slash_sep]
    · rw [List.singleton_append, K_cut slash_sep]

/-! normpath -/
noncomputable def dd : List Nat := [46, 46]
theorem K_dd : K dd = [] := by decide
theorem K_dot : K [46] = [] := by decide
theorem np_fold (root : Bool) : ∀ (L : List (List Nat)) (n : Nat) (kept : List (List Nat)), (∀ x ∈ kept, x ≠ dd) → (root = true → n = 0) →
    ∃ n', (root = true → n' = 0) ∧ L.foldl (npStep root) (List.replicate n dd ++ kept) = List.replicate n' dd ++ (L.filter ne0).foldl wkStep kept ∧ ∀ x ∈ (L.filter ne0).foldl wkStep kept, x ≠ dd
  | [], n, kept, hk, hr => ⟨n, hr, rfl, hk⟩
  | x :: L, n, kept, hk, hr => by
    rw [List.foldl_cons]
    by_cases h1 : x = []
    · subst h1
      have e : npStep root (List.replicate n dd ++ kept) [] = List.replicate n dd ++ kept := by simp [npStep]
      rw [e, List.filter_cons]
      exact np_fold root L n kept hk hr
    have hn : ne0 x = true := by unfold ne0; simpa using h1
    rw [List.filter_cons, hn, if_pos rfl, List.foldl_cons]
    have hemp : x.isEmpty = false := by simpa using h1
    by_cases h2 : x = [46]
    · subst h2
      have e : npStep root (List.replicate n dd ++ kept) [46] = List.replicate n dd ++ kept := by simp [npStep]
      have e2 : wkStep kept [46] = kept := by simp [wkStep]
      rw [e, e2]
      exact np_fold root L n kept hk hr
    by_cases h3 : x = dd
    · subst h3
      have ew : wkStep kept dd = kept.dropLast := by simp [wkStep, dd]
      rw [ew]
      have hk' : ∀ x ∈ kept.dropLast, x ≠ dd := fun x hx => hk x ((List.dropLast_sublist kept).subset hx)
      have e0 : npStep root (List.replicate n dd ++ kept) dd = if (!root && (List.replicate n dd ++ kept).isEmpty) || (List.replicate n dd ++ kept).getLast? == some [46, 46] then (List.replicate n dd ++ kept) ++ [dd] else (List.replicate n dd ++ kept).dropLast := by
        simp [npStep, dd]
      rw [e0]
      by_cases hkn : kept = []
      · subst hkn
        rw [List.append_nil]
        cases n with
        | zero =>
          cases root with
          | true =>
            rw [if_neg (by simp)]
            exact np_fold true L 0 [] (by simp) (fun _ => rfl)
          | false =>
            rw [if_pos (by simp)]
            have := np_fold false L 1 [] (by simp) (fun h => by cases h)
            simpa using this
        | succ n =>
          cases root with
          | true => have := hr rfl; omega
          | false =>
            rw [if_pos (by rw [List.getLast?_replicate]; simp [dd]), ← List.replicate_succ']
            have := np_fold false L (n + 2) [] (by simp) (fun h => by cases h)
            simpa using this
      · have hl : (List.replicate n dd ++ kept).getLast? = some (kept.getLast hkn) := by
          rw [List.getLast?_append, List.getLast?_eq_some_getLast hkn]; rfl
        have hlne : kept.getLast hkn ≠ dd := hk _ (List.getLast_mem hkn)
        rw [if_neg (by
          rw [hl]
          simp [hkn]
          exact hlne), List.dropLast_append_of_ne_nil hkn]
        exact np_fold root L n kept.dropLast hk' hr
    · have e : npStep root (List.replicate n dd ++ kept) x = List.replicate n dd ++ (kept ++ [x]) := by
        have h3' : x ≠ [46, 46] := h3
        simp [npStep, hemp, h2, h3']
      have ew : wkStep kept x = kept ++ [x] := by
        have h3' : x ≠ [46, 46] := h3
        simp [wkStep, h2, h3']
      rw [e, ew]
      refine np_fold root L n (kept ++ [x]) (fun y hy => ?_) hr
      rcases List.mem_append.mp hy with hy | hy
      · exact hk y hy
      · rw [List.mem_singleton.mp hy]; exact h3
theorem nms_rest (a : List Nat) : nms (restOf a) = nms a := by
  unfold restOf nms
  split
  · rfl
  · rename_i h
    cases a with
    | nil => rfl
    | cons c r =>
      have hc : c = 47 := by simpa using h
      subst hc
      split
      · show (splitC 47 r).filter ne0 = _
        simp [splitC, ne0]
      · rename_i h2
        cases r with
        | nil => simp at h2
        | cons d t =>
          have hd : d = 47 := by
            simp at h2
            exact h2.1
          subst hd
          show (splitC 47 t).filter ne0 = _
          simp [splitC, ne0]
theorem K_root (a : List Nat) (l : List Nat) : K (rootOf a ++ l) = K l := by
  unfold rootOf
  split
  · rfl
  · rename_i h
    cases a with
    | nil => simp at h
    | cons c r =>
      have hc : c = 47 := by simpa using h
      subst hc
      split
      · exact K_cons slash_sep l
      · rename_i h2
        cases r with
        | nil => simp at h2
        | cons d t =>
          have hd : d = 47 := by
            simp at h2
            exact h2.1
          subst hd
          show K (47 :: 47 :: l) = _
          rw [K_cons slash_sep, K_cons slash_sep]
theorem comps_walk (a : List Nat) : ∃ n, normComps a = List.replicate n dd ++ walkOf (namesOf a) := by
  obtain ⟨n, _, e, _⟩ := np_fold (!(rootOf a).isEmpty) (splitC 47 (restOf a)) 0 [] (by simp) (fun _ => rfl)
  refine ⟨n, ?_⟩
  rw [names_eq, ← nms_rest]
  exact e
theorem K_norm (a : List Nat) : K (normOf a) = (walkOf (namesOf a)).flatMap K := by
  have h0 : K (normPath a) = (walkOf (namesOf a)).flatMap K := by
    unfold normPath
    rw [K_root, K_join slash_sep]
    obtain ⟨n, e⟩ := comps_walk a
    rw [e, List.flatMap_append]
    have : ∀ m, (List.replicate m dd).flatMap K = [] := by
      intro m
      induction m with
      | zero => rfl
      | succ m ih => rw [List.replicate_succ, List.flatMap_cons, ih, K_dd]; rfl
    rw [this]; rfl
  unfold normOf
  split
  · rename_i h
    have ha : a = [] := by simpa using h
    subst ha
    rw [K_dot]; rfl
  · split
    · rename_i h
      have hp : normPath a = [] := by simpa using h
      rw [← h0, hp, K_dot, K_nil]
    · exact h0
end Mine
end

section
set_option maxRecDepth 100000
set_option linter.unusedVariables false
namespace Mine

/-! the names of a path, cut in two -/
theorem splitC_mid (c : Nat) (q : List Nat) : ∀ u : List Nat, splitC c (u ++ c :: q) = splitC c u ++ splitC c q
  | [] => by simp [splitC]
  | d :: u => by
    have ih := splitC_mid c q u
    obtain ⟨w, ws, hw⟩ := List.exists_cons_of_ne_nil (splitC_ne c u)
    by_cases hd : d = c
    · subst hd; simp [splitC, ih]
    · simp [splitC, hd, ih, hw]
theorem nms_nil : nms [] = [] := by simp [nms, splitC, ne0]
theorem nms_mid (u q : List Nat) : nms (u ++ 47 :: q) = nms u ++ nms q := by unfold nms; rw [splitC_mid, List.filter_append]
theorem nms_free {q : List Nat} (h : 47 ∉ q) : nms q = if q = [] then [] else [q] := by
  unfold nms
  rw [splitC_free h]
  by_cases hq : q = []
  · subst hq; simp [ne0]
  · simp [ne0, hq]
theorem nms_snoc (u : List Nat) : nms (u ++ [47]) = nms u := by rw [nms_mid, nms_nil, List.append_nil]
theorem nms_rtrim : ∀ (n : Nat) (u : List Nat), u.length ≤ n → nms (rtrim (· == 47) u) = nms u
  | n, u, h => by
    rcases List.eq_nil_or_concat u with rfl | ⟨v, c, e⟩
    · rfl
    rw [List.concat_eq_append] at e
    subst e
    cases n with
    | zero => simp at h
    | succ n =>
      by_cases hc : c = 47
      · subst hc
        rw [rtrim_snoc rfl, nms_snoc]
        exact nms_rtrim n v (by simp at h; omega)
      · rw [rtrim_stop (by simpa using hc)]
theorem rtrim_last (u : List Nat) : (rtrim (· == 47) u).getLast? ≠ some 47 := by
  unfold rtrim
  rw [List.getLast?_reverse]
  have := List.head?_dropWhile_not (· == 47) u.reverse
  intro h
  rw [h] at this
  simp at this
theorem nms_rep : ∀ n, nms (List.replicate n 47) = []
  | 0 => nms_nil
  | n + 1 => by rw [List.replicate_succ']; rw [nms_snoc, nms_rep n]

/-- what a head is -/
theorem head_cases (p : List Nat) : nms p = nms (headOf p) ++ (if tailOf p = [] then [] else [tailOf p]) ∧
    ((nms (headOf p) = [] ∧ headOf (headOf p) = headOf p) ∨ (headOf p ≠ p ∧ (headOf p).getLast? ≠ some 47 ∧ (tailOf p = [] → p.getLast? = some 47))) := by
  rcases cutLast_cases p with ⟨u, q, rfl, hq, e⟩ | ⟨h, e⟩
  · have ht : tailOf (u ++ 47 :: q) = q := by unfold tailOf; rw [e]
    by_cases ha : u ++ [47] = List.replicate (u ++ [47]).length 47
    · have hh : headOf (u ++ 47 :: q) = u ++ [47] := by
        unfold headOf
        rw [e, if_pos (by simp only [Bool.or_eq_true, beq_iff_eq]; exact .inr ha)]
      have hn : nms (u ++ [47]) = [] := by rw [ha]; exact nms_rep _
      have hn' : nms u = [] := by rw [← nms_snoc]; exact hn
      refine ⟨?_, .inl ⟨by rw [hh, hn], ?_⟩⟩
      · rw [ht, hh, hn, nms_mid, hn', nms_free hq]
      · rw [hh]
        have e2 : cutLast 47 (u ++ [47]) = (u ++ [47], []) := cutLast_at u (by simp)
        unfold headOf
        rw [e2, if_pos (by simp only [Bool.or_eq_true, beq_iff_eq]; exact .inr ha)]
    · have hh : headOf (u ++ 47 :: q) = rtrim (· == 47) (u ++ [47]) := by
        unfold headOf
        rw [e, if_neg (by simp only [Bool.or_eq_true, beq_iff_eq, not_or]; exact ⟨by simp, ha⟩)]
      have hn : nms (rtrim (· == 47) (u ++ [47])) = nms u := by rw [nms_rtrim _ _ (Nat.le_refl _), nms_snoc]
      refine ⟨?_, .inr ⟨?_, ?_, ?_⟩⟩
      · rw [ht, hh, hn, nms_mid, nms_free hq]
      · intro hE
        have h1 := congrArg List.length hE
        rw [hh, rtrim_snoc rfl] at h1
        have h2 := rtrim_len (· == 47) u
        simp at h1
        omega
      · rw [hh]; exact rtrim_last _
      · rw [ht]; rintro rfl; simp
  · have ht : tailOf p = p := by unfold tailOf; rw [e]
    have hh : headOf p = [] := by unfold headOf; rw [e]; rfl
    have h0 : headOf [] = [] := rfl
    refine ⟨?_, .inl ⟨by rw [hh, nms_nil], by rw [hh, h0]⟩⟩
    rw [ht, hh, nms_nil, nms_free h]; rfl
theorem climb_stop {p : List Nat} (h : headOf p = p) (n : Nat) (acc : List (List Nat)) : climb n p acc = acc := by
  cases n with
  | zero => rfl
  | succ n => unfold climb; rw [if_pos h]
theorem climb_all : ∀ (n : Nat) (p : List Nat) (acc : List (List Nat)), (nms p).length + (if p.getLast? = some 47 then 1 else 0) ≤ n → (climb n p acc).reverse = nms p ++ acc.reverse
  | n, p, acc, h => by
    obtain ⟨hn, hc⟩ := head_cases p
    by_cases hE : headOf p = p
    · have h0 : nms p = [] := by
        rcases hc with ⟨h1, _⟩ | ⟨h1, _⟩
        · rw [hE] at h1; exact h1
        · exact absurd hE h1
      rw [climb_stop hE, h0]; rfl
    · cases n with
      | zero =>
        have h1 : nms p = [] := by
          apply List.eq_nil_of_length_eq_zero; omega
        show acc.reverse = _
        rw [h1]; rfl
      | succ n =>
        have e : climb (n + 1) p acc = climb n (headOf p) (if tailOf p = [] then acc else acc ++ [tailOf p]) := by
          conv => lhs; unfold climb
          rw [if_neg hE]
        have hacc : (if tailOf p = [] then acc else acc ++ [tailOf p]).reverse = (if tailOf p = [] then [] else [tailOf p]) ++ acc.reverse := by
          split <;> simp
        rw [e, hn, List.append_assoc, ← hacc]
        rcases hc with ⟨h1, h2⟩ | ⟨_, h2, h3⟩
        · rw [climb_stop h2, h1]; rfl
        · refine climb_all n _ _ ?_
          rw [if_neg h2]
          rw [hn, List.length_append] at h
          by_cases ht : tailOf p = []
          · rw [if_pos ht, if_pos (h3 ht)] at h
            simp at h; omega
          · rw [if_neg ht] at h
            simp at h; omega

/-! how many names -/
noncomputable def cntS : Bool → List Nat → Nat
  | _, [] => 0
  | b, c :: r => if c = 47 then cntS false r else (if b then 0 else 1) + cntS true r
theorem cntS_cons (b : Bool) (c : Nat) (r : List Nat) : cntS b (c :: r) = if c = 47 then cntS false r else (if b then 0 else 1) + cntS true r := rfl
theorem cnt_tf : ∀ l, cntS true l ≤ cntS false l
  | [] => Nat.le_refl _
  | c :: r => by
    unfold cntS
    split
    · exact Nat.le_refl _
    · simp
theorem cnt_app (y : List Nat) : ∀ (x : List Nat) (b : Bool), cntS b (x ++ y) ≤ cntS b x + cntS false y
  | [], b => by
    cases b
    · simp [cntS]
    · have := cnt_tf y; simp [cntS]; omega
  | c :: r, b => by
    have h1 := cnt_app y r false
    have h2 := cnt_app y r true
    rw [List.cons_append, cntS_cons, cntS_cons]
    split
    · exact h1
    · omega
theorem cnt_split : ∀ l : List Nat, ∃ w ws, splitC 47 l = w :: ws ∧ cntS true l = (ws.filter ne0).length ∧ cntS false l = ((w :: ws).filter ne0).length
  | [] => ⟨[], [], rfl, rfl, rfl⟩
  | c :: r => by
    obtain ⟨w, ws, e, h1, h2⟩ := cnt_split r
    by_cases hc : c = 47
    · subst hc
      refine ⟨[], w :: ws, by simp [splitC, e], by simpa [cntS] using h2, ?_⟩
      have : ne0 [] = false := rfl
      simpa [cntS, List.filter_cons, this] using h2
    · refine ⟨c :: w, ws, by simp [splitC, hc, e], by simp [cntS, hc, h1], ?_⟩
      have : ne0 (c :: w) = true := rfl
      simp [cntS, hc, h1, this]; omega
theorem nms_cnt (l : List Nat) : (nms l).length = cntS false l := by
  obtain ⟨w, ws, e, _, h⟩ := cnt_split l
  unfold nms
  rw [e, h]
theorem pcs_small {x : List Nat} (h : x ∈ pcs) : cntS false x ≤ 1 ∧ x.length ≤ 7 := by
  have k : (pcs.all fun x => decide (cntS false x ≤ 1) && decide (x.length ≤ 7)) = true := by decide
  have := List.all_eq_true.mp k x h
  simpa using this
theorem flat_small : ∀ {us : List (List Nat)}, (∀ x ∈ us, x ∈ pcs) → cntS false us.flatten ≤ us.length ∧ us.flatten.length ≤ 7 * us.length
  | [], _ => ⟨Nat.le_refl _, Nat.le_refl _⟩
  | x :: us, h => by
    have h1 := flat_small (us := us) fun y hy => h y (.tail _ hy)
    have h2 := pcs_small (h x (.head _))
    have h3 := cnt_app us.flatten x false
    rw [List.flatten_cons, List.length_append, List.length_cons]
    omega

/-! what the law asks of a text -/
structure Ok (a : List Nat) : Prop where
  al : Al a
  good : good 0 a
  len : a.length ≤ 210
theorem paths_ok {a b : List Nat} (h : PathsOk a b) : Ok a ∧ Ok b ∧ Al (joinOf a b) ∧ (joinOf a b).length ≤ 211 ∧ climbOf (joinOf a b) = namesOf (joinOf a b) := by
  obtain ⟨us, ws, hp, hl, rfl, rfl⟩ := h
  have hu : ∀ x ∈ us, x ∈ pcs := fun x hx => hp x (List.mem_append_left _ hx)
  have hw : ∀ x ∈ ws, x ∈ pcs := fun x hx => hp x (List.mem_append_right _ hx)
  obtain ⟨u1, u2⟩ := flat_small hu
  obtain ⟨w1, w2⟩ := flat_small hw
  have alu := flat_al hu
  have alw := flat_al hw
  have hj : Al (joinOf us.flatten ws.flatten) ∧ (joinOf us.flatten ws.flatten).length ≤ 211 ∧ cntS false (joinOf us.flatten ws.flatten) ≤ 30 := by
    unfold joinOf
    split
    · exact ⟨alw, by omega, by omega⟩
    · split
      · have := cnt_app ws.flatten us.flatten false
        refine ⟨fun c hc => (List.mem_append.mp hc).elim (alu c) (alw c), by rw [List.length_append]; omega, by omega⟩
      · have h1 := cnt_app ([47] ++ ws.flatten) us.flatten false
        have h2 : cntS false ([47] ++ ws.flatten) = cntS false ws.flatten := by simp [cntS]
        refine ⟨fun c hc => ?_, by simp; simp at u2 w2; omega, by omega⟩
        rcases List.mem_append.mp hc with hc | hc
        · exact alu c hc
        · rcases List.mem_append.mp hc with hc | hc
          · rw [List.mem_singleton.mp hc]; decide
          · exact alw c hc
  refine ⟨⟨alu, flat_good hu 0, by omega⟩, ⟨alw, flat_good hw 0, by omega⟩, hj.1, hj.2.1, ?_⟩
  unfold climbOf
  rw [climb_all, names_eq]
  · simp
  · have := nms_cnt (joinOf us.flatten ws.flatten)
    split <;> omega

/-! the parts' texts -/
theorem Al.sub {a b : List Nat} (h : Al a) (hs : ∀ c ∈ b, c ∈ a) : Al b := fun c hc => h c (hs c hc)
theorem cut_sub (a : List Nat) : (∀ c ∈ (cutLast 47 a).1, c ∈ a) ∧ ∀ c ∈ (cutLast 47 a).2, c ∈ a := by
  have h := cutLast_app 47 a
  exact ⟨fun c hc => h ▸ List.mem_append_left _ hc, fun c hc => h ▸ List.mem_append_right _ hc⟩
theorem head_al {a : List Nat} (h : Al a) : Al (headOf a) := by
  refine h.sub fun c hc => ?_
  unfold headOf at hc
  split at hc
  · exact (cut_sub a).1 c hc
  · unfold rtrim at hc
    exact (cut_sub a).1 c (List.mem_reverse.mp ((List.dropWhile_sublist _).subset (List.mem_reverse.mp hc)))
theorem tail_al {a : List Nat} (h : Al a) : Al (tailOf a) := h.sub (cut_sub a).2
theorem tail_len (a : List Nat) : (tailOf a).length ≤ a.length := by
  have := congrArg List.length (cutLast_app 47 a)
  rw [List.length_append] at this
  unfold tailOf; omega
theorem split_mem {c : Nat} : ∀ {a : List Nat} {x : List Nat}, x ∈ splitC c a → ∀ y ∈ x, y ∈ a
  | [], x, h => by
    have : x = [] := by simpa [splitC] using h
    subst this; intro y hy; cases hy
  | d :: r, x, h => by
    intro y hy
    obtain ⟨w, ws, e⟩ := List.exists_cons_of_ne_nil (splitC_ne c r)
    have ih := fun (x : List Nat) (hx : x ∈ splitC c r) => split_mem (c := c) (a := r) hx
    rw [e] at ih
    unfold splitC at h
    split at h
    · rcases List.mem_cons.mp h with rfl | h
      · cases hy
      · rw [e] at h
        exact .tail _ (ih x h y hy)
    · rw [e] at h
      rcases List.mem_cons.mp h with rfl | h
      · rcases List.mem_cons.mp hy with rfl | hy
        · exact .head _
        · exact .tail _ (ih w (.head _) y hy)
      · exact .tail _ (ih x (.tail _ h) y hy)
theorem names_al {a : List Nat} (h : Al a) : ∀ x ∈ namesOf a, Al x := by
  intro x hx
  rw [names_eq] at hx
  exact h.sub (split_mem (List.mem_filter.mp hx).1)
theorem wt_names (a : List Nat) : wt (namesOf a) ≤ a.length + 1 := by
  rw [names_eq, ← wt_split 47 a]
  unfold nms wt
  have : ∀ l : List (List Nat), ((l.filter ne0).map fun t => t.length + 1).sum ≤ (l.map fun t => t.length + 1).sum := by
    intro l
    induction l with
    | nil => exact Nat.le_refl _
    | cons x l ih =>
      rw [List.filter_cons]
      split <;> simp <;> omega
  exact this _
theorem wk_mem : ∀ (l s : List (List Nat)), ∀ x ∈ l.foldl wkStep s, x ∈ s ∨ x ∈ l
  | [], s => fun x h => .inl h
  | y :: l, s => fun x h => by
    rcases wk_mem l (wkStep s y) x h with h | h
    · unfold wkStep at h
      split at h
      · exact .inl ((List.dropLast_sublist s).subset h)
      · split at h
        · rcases List.mem_append.mp h with h | h
          · exact .inl h
          · exact .inr (by rw [List.mem_singleton.mp h]; exact .head _)
        · exact .inl h
    · exact .inr (.tail _ h)
theorem walk_mem {ts : List (List Nat)} {x : List Nat} (h : x ∈ walkOf ts) : x ∈ ts := (wk_mem ts [] x h).elim (fun h => nomatch h) id
theorem wk_wt : ∀ (l s : List (List Nat)), wt (l.foldl wkStep s) ≤ wt s + wt l
  | [], s => by simp [wt]
  | y :: l, s => by
    have h1 := wk_wt l (wkStep s y)
    have h2 : wt (wkStep s y) ≤ wt s + (y.length + 1) := by
      unfold wkStep
      split
      · have := wt_dropLast s; omega
      · split
        · rw [wt_app, wt_one]; omega
        · omega
    have h3 : wt (y :: l) = y.length + 1 + wt l := by simp [wt]
    rw [List.foldl_cons]; omega
theorem wt_walk (ts : List (List Nat)) : wt (walkOf ts) ≤ wt ts := by
  have := wk_wt ts []
  have w0 : wt [] = 0 := rfl
  unfold walkOf; omega
theorem norm_al {a : List Nat} (h : Al a) : Al (normOf a) := by
  have hd : Al [46] := by intro c hc; rw [List.mem_singleton.mp hc]; decide
  have hr : Al (rootOf a) := by
    refine h.sub fun c hc => ?_
    unfold rootOf at hc
    split at hc
    · cases hc
    · rename_i h1
      split at hc
      · have h1' : a.take 1 = [47] := by simpa using h1
        rw [← h1'] at hc
        exact List.mem_of_mem_take hc
      · exact List.mem_of_mem_take hc
  have hn : Al (normPath a) := by
    unfold normPath
    intro c hc
    rcases List.mem_append.mp hc with hc | hc
    · exact hr c hc
    · rcases joinL_mem _ c hc with rfl | ⟨x, hx, hcx⟩
      · decide
      · obtain ⟨n, e⟩ := comps_walk a
        rw [e] at hx
        rcases List.mem_append.mp hx with hx | hx
        · rw [List.eq_of_mem_replicate hx] at hcx
          have : c = 46 := by simpa [dd] using hcx
          subst this; decide
        · exact names_al h x (walk_mem hx) c hcx
  unfold normOf
  split
  · exact hd
  · split
    · exact hd
    · exact hn
theorem norm_len (a : List Nat) : (normOf a).length ≤ a.length + 3 := by
  have h1 := rootOf_len a
  have h2 := restOf_len a
  have h3 := joinL_len [47] (normComps a) rfl
  have h4 := wt_fold (!(rootOf a).isEmpty) (splitC 47 (restOf a)) []
  rw [wt_split] at h4
  have h5 : wt [] = 0 := rfl
  have h6 : wt (normComps a) ≤ wt [] + ((restOf a).length + 1) := h4
  have h7 : (normPath a).length ≤ a.length + 3 := by
    unfold normPath
    rw [List.length_append]; omega
  unfold normOf
  split
  · simp
  · split
    · simp
    · exact h7

/-! what the program's call and the law's call give -/
noncomputable def Rw (ts : List (List Nat)) : List (Int ⊕ List Nat) := (ts.flatMap K).flatMap tkItem
structure CvOk (ts : List (List Nat)) (l : List Nat) : Prop where
  len : l.length ≤ 640
  parts : ∀ p ∈ reParts l, PartOk p
  many : (reParts l).length ≤ 2000
  row : cvFlat (reParts l) = Rw ts
theorem cv_ok {ts : List (List Nat)} {l : List Nat} (ha : ∀ x ∈ ts, Al x) (hw : wt ts ≤ 640) (h : SameTk (plat0 ts) l) : CvOk ts l := by
  have hl : l.length ≤ 640 := Nat.le_trans h.len (Nat.le_trans (plat_len ts) hw)
  obtain ⟨h1, h2⟩ := parts_ok hl fun c hc => plat_mem ha c (h.mem c hc)
  refine ⟨hl, h1, h2, ?_⟩
  rw [cv_tk, h.tk, plat_tk ts ha]; rfl
theorem told_rw {ts : List (List Nat)} (ha : ∀ x ∈ ts, Al x) (hf : Fine (ts.flatMap K)) : flatP (rowOf (safeOf ts)) = Rw ts := by
  rw [told_eq, safe_tk ts ha, ← fine_eq hf]; rfl
theorem rw_one (a : List Nat) : Rw [a] = (K a).flatMap tkItem := by unfold Rw; simp
theorem fine_one {a : List Nat} (h : Ok a) : Fine ([a].flatMap K) := by simpa using fine_K h.al h.good
theorem fine_walk {a : List Nat} (h : Ok a) : Fine ((walkOf (namesOf a)).flatMap K) := by
  intro w hw
  obtain ⟨x, hx, hm⟩ := List.mem_flatMap.mp hw
  have h2 : Sum.inr w ∈ (namesOf a).flatMap K := List.mem_flatMap.mpr ⟨x, walk_mem hx, hm⟩
  rw [K_names] at h2
  exact fine_K h.al h.good w h2
theorem rw_headtail (a : List Nat) : Rw [headOf a] ++ Rw [tailOf a] = Rw [a] := by
  rw [rw_one, rw_one, rw_one, ← K_headtail a, List.flatMap_append]
theorem rw_ext {x y a : List Nat} (h : x ++ y = a) (hy : y = [] ∨ y.head? = some 46) : Rw [x] ++ Rw [y] = Rw [a] := by
  rw [rw_one, rw_one, rw_one, ← h, ← K_ext hy, List.flatMap_append]
theorem rw_norm (a : List Nat) : Rw [normOf a] = Rw (walkOf (namesOf a)) := by
  rw [rw_one, K_norm]; rfl
theorem rw_names (a : List Nat) : Rw (namesOf a) = Rw [a] := by
  rw [rw_one]; unfold Rw; rw [K_names]
theorem rw_join (a b : List Nat) : Rw [joinOf a b] = if b.head? == some 47 || a.isEmpty then Rw [b] else Rw [a] ++ Rw [b] := by
  rw [rw_one, K_joinOf]
  split
  · rw [rw_one]
  · rw [rw_one, rw_one, List.flatMap_append]
end Mine
end

section
open PySem PySem.W PySem.Calls PyProof.Rows PySem.SeqAt
set_option maxRecDepth 100000
set_option linter.unusedVariables false
namespace Mine

section
variable {c : Cx} {vs : Vs} {nw : Nw} {Q : Value → Vs → Nw → Prop}
/-- f(*xs), xs a list -/
theorem do_CallStar (D : Fd) (i : Nat) {x : Str} {np pos sp : Pos} {e : Expr} (hk : c.gs[i]? = some (x, .ref D.f))
    (h : Do c (eval e c.env) (fun v vs nw => ∃ l xs n, v = .ref l ∧ Has c nw l (lstOf xs n) ∧ xs.length ≤ 16777216 ∧ Do c (call (.ref D.f) xs) Q vs nw) vs nw) : Do c (eval (.Call (.Name x np) [.Starred e sp] [] pos) c.env) Q vs nw := Do.mk fun pin s S => by
  obtain ⟨o, ho, hd⟩ := D.ho c.w
  refine wpAny_Call_ofName (wpAny_mono ((do_glob (Q := fun v vs' nw' => v = .ref D.f ∧ vs' = vs ∧ nw' = nw) i hk ⟨rfl, rfl, rfl⟩).use S) (fun f s₁ ⟨_, _, S₁, e1, e2, e3⟩ => ?_) fun _ _ x => x)
  subst e1 e2 e3
  refine callWith_function (o := o) (fd := D.fd c.w) ?_
  unfold evalArgs
  show wpAny _ _ ((eval e c.env >>= fun v => standAt pos >>= fun _ => pure v) >>= _) _ _ _
  refine wpAny_bind (wpAny_bind (wpAny_mono (h.use S₁) (fun v s₂ h₂ => ?_) fun _ _ x => x))
  obtain ⟨vs₂, nw₂, S₂, l, xs, n, rfl, hh, hsz, hc⟩ := h₂
  refine wpAny_bind (wpAny_standAt (wpAny_pure ?_))
  refine wpAny_bind (wpAny_pure ?_)
  refine wpAny_holding ?_
  have hl := isL S₂ hh
  refine wpAny_bind (wpAny_pure ?_)
  refine wpAny_bind ?_
  refine wpAny_bind ?_
  unfold notIterableAtAll
  refine wpAny_bind (wpAny_specialOf hl.typeIs PySem.F.slot_list_iter.lookup ?_)
  refine wpAny_pure ?_
  rw [if_neg (by decide)]
  refine wpAny_holding ?_
  refine wpAny_collect_seq l (o := lstOf xs n) (.inl rfl) (S₂.get hh).1 rfl rfl (fun h' hk => ?_) (by rw [szl]; simpa using hsz)
  have S₃ : St c pin vs₂ nw₂ { s₂ with heap := h' } := S₂.ext hk S₂.tk
  refine wpAny_pure ⟨⟨S₃.gr.K _ _ ho, hd⟩, ?_⟩
  exact hc.run pin _ S₃

theorem cvItem_len (p : List Nat) : (cvItem p).length ≤ 2 := by
  unfold cvItem
  repeat (first | split | decide | simp)
theorem rw_len {ts : List (List Nat)} {l : List Nat} (C : CvOk ts l) : (Rw ts).length ≤ 4000 := by
  rw [← C.row]
  have h : ∀ ps : List (List Nat), (cvFlat ps).length ≤ 2 * ps.length := by
    intro ps
    induction ps with
    | nil => exact Nat.le_refl _
    | cons p ps ih =>
      have h1 := cvItem_len p
      have h2 : cvFlat (p :: ps) = cvItem p ++ cvFlat ps := rfl
      rw [h2, List.length_append, List.length_cons]; omega
  have := h (reParts l)
  have := C.many
  omega
/-- _comparable_version(_platform(..)) -/
theorem dox_row0 {args : List Expr} {p1 p2 p3 p4 : Pos} {i : Nat} {y z : Str} (hi : c.gs[i]? = some (y, .ref 51)) (hn : Nat.ble 2 c.lev = true)
    (hfr : c.A.frames = some [c.env]) (hf : c.env.frame = some c.env.locals)
    (h : Do c (eval (.Call (.Name z p2) args [] p3) c.env) (fun v vs nw => ∃ ts l t, v = .str (S l) t ∧ CvOk ts l ∧ ∀ l xs n, Iss xs (Rw ts) → xs.length ≤ 4000 → Q (.ref l) vs ((l, lstOf xs n) :: nw)) vs nw) :
    DoX c (eval (.Call (.Name y p1) [.Call (.Name z p2) args [] p3] [] p4) c.env) Q vs nw := by
  refine dox_CallF D_cv i hi ?_
  refine do_args (h.mono fun v vs nw h => ?_)
  obtain ⟨ts, l, t, rfl, C, hq⟩ := h
  refine do_args0 ?_
  refine dox_fnz (fn_cv l t C.len C.parts C.many) hn hfr hf no_ro ?_
  rintro v nw' ⟨m, xs, n, rfl, rfl, hI⟩
  rw [C.row] at hI
  exact hq m xs n hI (by rw [All2.length_eq hI]; exact rw_len C)
theorem plat_row {as : List Value} {ts : List (List Nat)} (hx : Txs as ts) (ha : ∀ x ∈ ts, Al x) (hw : wt ts ≤ 640) (hn : Nat.ble 2 c.lev = true) (hq : ∀ l xs n, Iss xs (Rw ts) → xs.length ≤ 4000 → Q (.ref l) vs ((l, lstOf xs n) :: nw)) :
    Do c (call (.ref 58) as) (fun v vs nw => ∃ ts l t, v = .str (S l) t ∧ CvOk ts l ∧ ∀ l xs n, Iss xs (Rw ts) → xs.length ≤ 4000 → Q (.ref l) vs ((l, lstOf xs n) :: nw)) vs nw := by
  refine do_fn (fn_platform _ _ hx (by omega)) (by have := Nat.le_of_ble_eq_true hn; exact Nat.ble_eq_true_of_le (by omega)) no_ro ?_
  rintro v nw' ⟨l, hs, ⟨t, rfl⟩, rfl⟩
  exact ⟨ts, l, t, rfl, cv_ok ha hw hs, hq⟩
/-- _comparable_version(_platform(x)) -/
theorem dox_row {e : Expr} {p1 p2 p3 p4 : Pos} {i j : Nat} {y z : Str} (hi : c.gs[i]? = some (y, .ref 51)) (hj : c.gs[j]? = some (z, .ref 58)) (hn : Nat.ble 2 c.lev = true)
    (hfr : c.A.frames = some [c.env]) (hf : c.env.frame = some c.env.locals)
    (h : Do c (eval e c.env) (fun v vs nw => ∃ a t, v = .str (S a) t ∧ Al a ∧ a.length ≤ 600 ∧ ∀ l xs n, Iss xs (Rw [a]) → xs.length ≤ 4000 → Q (.ref l) vs ((l, lstOf xs n) :: nw)) vs nw)
    (hp : starEach [e] c.env = [(false, eval e c.env)] := by rfl) :
    DoX c (eval (.Call (.Name y p1) [.Call (.Name z p2) [e] [] p3] [] p4) c.env) Q vs nw := by
  refine dox_row0 hi hn hfr hf ?_
  refine do_CallF D_platform j hj ?_ (by rw [hp]; rfl)
  refine do_args (h.mono fun v vs nw h => ?_) hp
  obtain ⟨a, t, rfl, ha, hl, hq⟩ := h
  refine do_args0 ?_
  exact plat_row (All2.cons ⟨t, rfl⟩ All2.nil) (fun x hx => by rw [List.mem_singleton.mp hx]; exact ha) (by rw [wt_one]; omega) hn hq
theorem dox_rowS {e : Expr} {p1 p2 p3 p4 sp : Pos} {i j : Nat} {y z : Str} (hi : c.gs[i]? = some (y, .ref 51)) (hj : c.gs[j]? = some (z, .ref 58)) (hn : Nat.ble 2 c.lev = true)
    (hfr : c.A.frames = some [c.env]) (hf : c.env.frame = some c.env.locals)
    (h : Do c (eval e c.env) (fun v vs nw => ∃ l xs n ts, v = .ref l ∧ Has c nw l (lstOf xs n) ∧ Txs xs ts ∧ (∀ x ∈ ts, Al x) ∧ wt ts ≤ 640 ∧ ∀ m ys n, Iss ys (Rw ts) → ys.length ≤ 4000 → Q (.ref m) vs ((m, lstOf ys n) :: nw)) vs nw) :
    DoX c (eval (.Call (.Name y p1) [.Call (.Name z p2) [.Starred e sp] [] p3] [] p4) c.env) Q vs nw := by
  refine dox_row0 hi hn hfr hf ?_
  refine do_CallStar D_platform j hj (h.mono fun v vs nw h => ?_)
  obtain ⟨l, xs, n, ts, rfl, hh, hx, ha, hw, hq⟩ := h
  exact ⟨l, xs, n, rfl, hh, by have := hx.len; have := wt_len ts; omega, plat_row hx ha hw hn hq⟩
end


/-! a contract of the caller that stands alone -/
noncomputable def FnX0 (f : Addr) (n : Nat) (args : List Value) (ro : Nw) (Post : Value → Nw → Prop) : Prop :=
  ∀ (w : World) (A : Around) (s : Shared), Rm n A → A.frames = some [] → Gr w s.heap → AllBare s.gens → (∀ p ∈ ro, s.heap.get? p.1 = some p.2 ∧ p.1 ≠ 53) →
    codeX (MM w) A (.call (.ref f) ⟨args, []⟩) (fun r s' => ∃ v nw, r = .ok (.ret v) ∧ FnR w s Post v nw s') s
theorem FnX0.of (D : Fd) {n m : Nat} {args : List Value} {ro : Nw} {Post : Value → Nw → Prop} (hm : args.length + m = D.ks.length) (h1 : 1 ≤ args.length)
    (hbind : ∀ w, bindArgs (D.fd w) ⟨args, []⟩ = pure ((D.ks.take args.length).zip args))
    (h : ∀ w A L os rm low, A.frames = some [callEnv (D.fd w) L D.f] → DoX (D.cx w A L ro os n rm low) (execs (D.body w) (callEnv (D.fd w) L D.f)) (fun fl _ nw => ∃ nw', nw'.Sublist nw ∧ Post (retOf fl) nw') (args.map some ++ List.replicate m none) []) :
    FnX0 D.f (n + 1) args ro Post := by
  intro w A s R hfr G gb hro
  obtain ⟨o, hl, hd⟩ := D.ho w
  have hle : args.length ≤ D.ks.length := by omega
  have hloc : ∀ x ∈ (D.ks.take args.length).zip args, (D.fd w).scope.names.lookup x.1 = some .local := fun x hx => by
    have h1 : x.1 ∈ D.ks := List.mem_of_mem_take (List.of_mem_zip (a := x.1) (b := x.2) hx).1
    have := List.all_eq_true.mp (D.loc w) _ h1
    rw [Bool.and_eq_true] at this
    exact of_decide_eq_true this.1
  refine codeX_call_function (by have := R.hd; show A.depth < 1000; omega) (G.K _ _ hl) hd (D.co w) (D.gen w) (D.hbody w) (codeRec_of G.K (D.hcode w)) (BindsTo.of_eq (hbind w) _ _ _ _ ?_)
  refine wpAny_newFunctionEnv (fun x hx => by have := List.all_eq_true.mp (D.nocell w) x hx; simpa using this) hloc (fun h₀ hns hsb => ⟨G.nl.fresh _ hsb, codeX_func ?_⟩) (D.kind w)
  have hk : ∀ b o, s.heap.get? b = some o → h₀.get? b = some o := fun b o e => hsb.extBut b o (Nat.ne_of_lt (Heap.lt_size e)) (Heap.get?_push_of_some _ e)
  rw [binds_look D.nd hle hm] at hns
  have S : St (D.cx w (A.deeper (callEnv (D.fd w) s.heap.objs.size D.f)) s.heap.objs.size ro (s.os, s.heap) n R.deeper G.size) (fun b o => s.heap.get? b = some o ∧ b ≠ 53) (args.map some ++ List.replicate m none) []
      { s with heap := h₀, toks := s.toks + ((D.ks.take args.length).zip args).length } := {
    gr := G.ext fun b o _ e => hk b o e
    ns := hns
    len := by simp; exact hm
    pinned := fun b o h => hk b o h.1
    pL := fun o h => Nat.lt_irrefl _ (Heap.lt_size h.1)
    p53 := fun o h => h.2 rfl
    ro := fun p hp => hro p hp
    own := fun p hp => nomatch hp
    nwA := fun p hp => nomatch hp
    ord := List.Pairwise.nil
    gens := gb
    os := rfl
    tk := by simp; omega
    b53 := T53.of_tab G.tab fun o e => hk _ o e }
  refine wpX_mono ((h w _ _ (s.os, s.heap) R.deeper G.size (Around.frames_deeper hfr)).use S) (fun fl s' hq => ?_) fun _ _ x => x.elim
  obtain ⟨vs', nw', S', nw'', hsub, hp⟩ := hq
  have S'' := S'.drop hsub
  refine ⟨_, nw'', rfl, ⟨?_, S''.gr, fun b o hb e => S''.pinned b o ⟨e, hb⟩, fun p hp => ⟨S''.own p hp, ?_⟩, S''.ord, S''.gens, S''.os, S''.b53⟩⟩
  · cases fl <;> exact hp
  · exact Nat.le_of_lt (S''.nwA p hp).1
end Mine
end

section
open PySem PySem.W PySem.Calls PyProof.Rows
set_option maxRecDepth 100000
set_option linter.unusedVariables false
namespace Mine

noncomputable def D_law : Fd := mkFd 260 ["script", "paths", "rows", "spot", "row", "root", "ending", "first", "second", "alone", "whole", "both", "apart"] [("_law_paths", .ref 206), ("join", .ref 166), ("_law_climb", .ref 253), ("_comparable_version", .ref 51), ("_splitext", .ref 138), ("isabs", .ref 159), ("_law_names", .ref 239), ("_platform", .ref 58), ("_law_told", .ref 232), ("_law_walk", .ref 246), ("normpath", .ref 201), ("dirname", .ref 194), ("basename", .ref 187)] (by intro w; kernel_rfl)

/-- the rows so far -/
noncomputable def lwR (a b : List Nat) (pl rl : Addr) (P : Obj) : Nat → Nw → Prop
  | 0, nw => ∃ n, nw = [(rl, lstOf [] n), (pl, P)]
  | 1, nw => ∃ n r xs m, nw = [(r, lstOf xs m), (rl, lstOf [.ref r] n), (pl, P)] ∧ Iss xs (Rw [a]) ∧ xs.length ≤ 4000
  | _, nw => ∃ n r xs m r' xs' m', nw = [(r', lstOf xs' m'), (r, lstOf xs m), (rl, lstOf [.ref r, .ref r'] n), (pl, P)] ∧ Iss xs (Rw [a]) ∧ xs.length ≤ 4000 ∧ Iss xs' (Rw [b]) ∧ xs'.length ≤ 4000
noncomputable def lwI (l : Addr) (a b : List Nat) (pl rl : Addr) (P : Obj) (k : Nat) (vs : Vs) (nw : Nw) : Prop :=
  ∃ x3 x4 x5 x6, vs = [some (.ref l), some (.ref pl), some (.ref rl), x3, x4, x5, x6, none, none, none, none, none, none] ∧ lwR a b pl rl P k nw
theorem lwR_has {c : Cx} {a b : List Nat} {pl rl : Addr} {P : Obj} {k : Nat} {nw : Nw} (h : lwR a b pl rl P k nw) : Has c nw pl P := by
  refine gopq fun _ hG => ?_
  match k, h with
  | 0, h => obtain ⟨_, e⟩ := h; exact hG (by rw [e]; exact .inl (.tail _ (.head _)))
  | 1, h => obtain ⟨_, _, _, _, e, _⟩ := h; exact hG (by rw [e]; exact .inl (.tail _ (.tail _ (.head _))))
  | _ + 2, h => obtain ⟨_, _, _, _, _, _, _, e, _⟩ := h; exact hG (by rw [e]; exact .inl (.tail _ (.tail _ (.tail _ (.head _)))))
theorem cut_one (x : List Nat) : (cutL x none (some 1) == [47]) = (x.head? == some 47) := by
  cases x with
  | nil => rfl
  | cons c r =>
    have : cutL (c :: r) none (some 1) = [c] := by
      unfold cutL clampN
      simp
    rw [this]
    simp
theorem cut_end (x : List Nat) : (cutL x (some (-1)) none == [47]) = (x.getLast? == some 47) := by
  rcases List.eq_nil_or_concat x with rfl | ⟨r, c, e⟩
  · rfl
  · rw [List.concat_eq_append] at e
    subst e
    have : cutL (r ++ [c]) (some (-1)) none = [c] := by rw [Mine.cut_last]; simp
    rw [this]
    simp

theorem do_CallC {c : Cx} {vs : Vs} {nw : Nw} {Q : Value → Vs → Nw → Prop} (D : FdC) (i : Nat) {x : Str} {np pos : Pos} {args : List Expr} (hk : c.gs[i]? = some (x, .ref D.f)) (h : Do c (spliced (backTo pos (starEach args c.env))) (fun as => Do c (call (.ref D.f) as) Q) vs nw)
    (hp : (backTo pos (starEach args c.env)).any (·.1) = false := by rfl) : Do c (eval (.Call (.Name x np) args [] pos) c.env) Q vs nw := Do.mk fun pin s S => by
  obtain ⟨o, ho, hd⟩ := D.ho c.w
  exact wpAny_Call_ofName (wpAny_mono ((do_glob (Q := fun v vs' nw' => v = .ref D.f ∧ vs' = vs ∧ nw' = nw) i hk ⟨rfl, rfl, rfl⟩).use S) (fun f s₁ ⟨_, _, S₁, e1, e2, e3⟩ => by
    subst e1 e2 e3
    exact callWith_function (o := o) (fd := D.fd c.w) (evalArgs_of hp (wpAny_mono (h.use S₁) (fun as s₂ ⟨_, _, S₂, h₂⟩ => ⟨⟨S₂.gr.K _ _ ho, hd⟩, h₂.run pin s₂ S₂⟩) fun _ _ x => x))) fun _ _ x => x)
theorem bad {P : Prop} {X Y : List (Int ⊕ List Nat)} (h : X = Y) (hT : (!decide (X = Y)) = true) : P := by
  rw [decide_eq_true h] at hT; exact absurd hT (by decide)
theorem fn_law (l : Addr) (o : Obj) (xs : List Value) (n : Nat) (hcls : o.cls = .type "list") (hdata : o.data = .seq xs.toArray n) (hi : AllInt xs) (hlen : xs.length ≤ 63) :
    FnX0 260 4 [.ref l] [(l, o)] (fun v nw => v = .bool true ∧ nw = []) := by
  refine FnX0.of D_law (m := 12) rfl (Nat.le_refl _) (fun w => by kernel_rfl) fun w A L os rm low hfr => ?_
  refine dox_cons ?_
  refine dox_Assign (i := 1) rfl (DoX.of ?_)
  refine do_CallC D_law_paths 0 rfl ?_
  refine do_args ?_
  refine do_loc 0 rfl rfl ?_
  refine do_args0 ?_
  refine do_fn (fn_law_paths l o xs n hcls hdata hi hlen) rfl (fun p hp => by rw [List.mem_singleton.mp hp]; exact .inr (.head _)) ?_
  rintro v nw' ⟨pl, a, b, t, u, pn, rfl, rfl, hok⟩
  obtain ⟨hA, hB, hJ, hJl, hcl⟩ := paths_ok hok
  refine dox_cons ?_
  refine dox_Assign (i := 2) rfl (DoX.of ?_)
  refine do_List ?_
  refine do_args0 ⟨Nat.le_of_ble_eq_true rfl, fun rl => ?_⟩
  refine dox_then (lwI l a b pl rl (lstOf [.str (S a) t, .str (S b) u] pn) 2) ?_ ?_
  · refine dox_For ?_
    refine do_loc 1 rfl rfl ?_
    refine forX_list (i := 3) rfl (lwI l a b pl rl (lstOf [.str (S a) t, .str (S b) u] pn)) ⟨_, _, _, _, rfl, _, rfl⟩ (.inl (.tail _ (.head _))) (fun k vs nw hI => ?_) (fun k v vs nw hv hI => ?_) (fun vs nw hI => hI)
    · obtain ⟨_, _, _, _, _, h⟩ := hI
      exact lwR_has h
    · obtain ⟨x3, x4, x5, x6, rfl, hR⟩ := hI
      obtain ⟨x, tx, rfl, hx, hkx⟩ : ∃ x tx, v = .str (S x) tx ∧ Ok x ∧ ((k = 0 ∧ x = a) ∨ (k = 1 ∧ x = b)) := by
        match k, hv with
        | 0, hv => exact ⟨a, t, (Option.some.inj hv).symm, hA, .inl ⟨rfl, rfl⟩⟩
        | 1, hv => exact ⟨b, u, (Option.some.inj hv).symm, hB, .inr ⟨rfl, rfl⟩⟩
      have hxl := hx.len
      refine dox_cons ?_
      refine dox_Assign (i := 4) rfl ?_
      refine dox_row (i := 3) (j := 7) rfl rfl rfl hfr rfl ?_
      refine do_loc 3 rfl rfl ?_
      refine ⟨x, tx, rfl, hx.al, by omega, fun r rs rn hr hrl => ?_⟩
      -- told
      refine dox_cons ?_
      refine dox_If (DoX.of ?_)
      refine tr_Compare ?_
      refine do_loc 4 rfl rfl ?_
      refine do_CallF D_law_told 8 rfl ?_
      refine do_args ?_
      refine do_List ?_
      refine do_args ?_
      refine do_loc 3 rfl rfl ?_
      refine do_args0 ⟨Nat.le_of_ble_eq_true rfl, fun ol => ?_⟩
      refine do_args0 ?_
      refine do_fn (fn_law_told ol _ 0 [x] (All2.cons ⟨tx, rfl⟩ All2.nil) (by rw [wt_one]; omega)) rfl (fun p hp => by rw [List.mem_singleton.mp hp]; exact .inl (.head _)) ?_
      rintro v nw' ⟨fl, fs, fn, rfl, rfl, hf⟩
      rw [told_rw (fun y hy => by rw [List.mem_singleton.mp hy]; exact hx.al) (fine_one hx)] at hf
      refine ne_LL (.inl (.tail _ (.tail _ (.head _)))) (.inl (.head _)) hr hf ⟨_, rfl, fun hT => bad rfl hT, fun hF => ?_⟩
      refine DoX.drop (nw' := (r, lstOf rs rn) :: nw) ?_ (by first | exact List.Sublist.refl _ | exact .cons _ (List.Sublist.refl _) | exact .cons _ (.cons _ (List.Sublist.refl _)) | exact .cons _ (.cons _ (.cons _ (List.Sublist.refl _))) | exact .cons _ (.cons _ (.cons _ (.cons _ (List.Sublist.refl _)))))
      refine dox_nil ?_
      -- dirname, basename
      refine dox_cons ?_
      refine dox_If ?_
      refine trx_Compare ?_
      refine dox_BinOp ?_
      refine dox_row (i := 3) (j := 7) rfl rfl rfl hfr rfl ?_
      refine do_CallF D_dirname 11 rfl ?_
      refine do_args ?_
      refine do_loc 3 rfl rfl ?_
      refine do_args0 ?_
      refine do_ret_str (fn_dirname x tx (by omega)) rfl fun _ => ?_
      refine ⟨_, _, rfl, head_al hx.al, by have := headOf_len x; omega, fun l1 s1 n1 h1 h1l => ?_⟩
      refine dox_row (i := 3) (j := 7) rfl rfl rfl hfr rfl ?_
      refine do_CallF D_basename 12 rfl ?_
      refine do_args ?_
      refine do_loc 3 rfl rfl ?_
      refine do_args0 ?_
      refine do_ret_str (fn_basename x tx (by omega)) rfl fun _ => ?_
      refine ⟨_, _, rfl, tail_al hx.al, by have := tail_len x; omega, fun l2 s2 n2 h2 h2l => ?_⟩
      refine add_LL (.inl (.tail _ (.head _))) (.inl (.head _)) (by omega) fun l3 => ?_
      refine DoX.of ?_
      refine do_loc 4 rfl rfl ?_
      refine ne_LL (.inl (.head _)) (.inl (.tail _ (.tail _ (.tail _ (.head _))))) (Iss.app h1 h2) hr ⟨_, rfl, fun hT => bad (rw_headtail x) hT, fun hF => ?_⟩
      refine DoX.drop (nw' := (r, lstOf rs rn) :: nw) ?_ (by first | exact List.Sublist.refl _ | exact .cons _ (List.Sublist.refl _) | exact .cons _ (.cons _ (List.Sublist.refl _)) | exact .cons _ (.cons _ (.cons _ (List.Sublist.refl _))) | exact .cons _ (.cons _ (.cons _ (.cons _ (List.Sublist.refl _)))))
      refine dox_nil ?_
      -- splitext
      refine dox_cons ?_
      refine DoX.of ?_
      refine do_AssignTuple ?_
      refine do_CallF D_splitext 4 rfl ?_
      refine do_args ?_
      refine do_loc 3 rfl rfl ?_
      refine do_args ?_
      refine do_S [47] (by decide +kernel) fun _ => ?_
      refine do_args ?_
      refine do_none ?_
      refine do_args ?_
      refine do_S [46] (by decide +kernel) fun _ => ?_
      refine do_args0 ?_
      refine do_fn (fn_splitext x tx _ _ (by omega)) rfl no_ro ?_
      rintro v nw' ⟨y, z, hyz, hz, ep, u1, u2, rfl, rfl⟩
      have hyzl : y.length + z.length = x.length := by rw [← hyz, List.length_append]
      refine do_assignT ?_
      refine do_unpackT (.inl (.head _)) rfl ?_
      refine do_inOrder (do_assignName (i := 5) rfl ?_)
      refine do_inOrder (do_assignName (i := 6) rfl ?_)
      refine do_inOrder0 ?_
      refine DoX.drop (nw' := (r, lstOf rs rn) :: nw) ?_ (by first | exact List.Sublist.refl _ | exact .cons _ (List.Sublist.refl _) | exact .cons _ (.cons _ (List.Sublist.refl _)) | exact .cons _ (.cons _ (.cons _ (List.Sublist.refl _))) | exact .cons _ (.cons _ (.cons _ (.cons _ (List.Sublist.refl _)))))
      refine dox_cons ?_
      refine dox_If (DoX.of ?_)
      refine tr_Compare ?_
      refine do_BinOp ?_
      refine do_loc 5 rfl rfl ?_
      refine do_loc 6 rfl rfl ?_
      refine add_ss (by omega) fun _ => ?_
      refine do_loc 3 rfl rfl ?_
      refine ne_ss ⟨_, rfl, fun hT => absurd hT (by rw [hyz]; simp), fun hF => ?_⟩
      refine dox_nil ?_
      refine dox_cons ?_
      refine dox_If ?_
      refine trx_Compare ?_
      refine dox_BinOp ?_
      refine dox_row (i := 3) (j := 7) rfl rfl rfl hfr rfl ?_
      refine do_loc 5 rfl rfl ?_
      refine ⟨_, _, rfl, hx.al.sub fun c hc => hyz ▸ List.mem_append_left _ hc, by omega, fun l1 s1 n1 h1 h1l => ?_⟩
      refine dox_row (i := 3) (j := 7) rfl rfl rfl hfr rfl ?_
      refine do_loc 6 rfl rfl ?_
      refine ⟨_, _, rfl, hx.al.sub fun c hc => hyz ▸ List.mem_append_right _ hc, by omega, fun l2 s2 n2 h2 h2l => ?_⟩
      refine add_LL (.inl (.tail _ (.head _))) (.inl (.head _)) (by omega) fun l3 => ?_
      refine DoX.of ?_
      refine do_loc 4 rfl rfl ?_
      refine ne_LL (.inl (.head _)) (.inl (.tail _ (.tail _ (.tail _ (.head _))))) (Iss.app h1 h2) hr ⟨_, rfl, fun hT => bad (rw_ext hyz hz) hT, fun hF => ?_⟩
      refine DoX.drop (nw' := (r, lstOf rs rn) :: nw) ?_ (by first | exact List.Sublist.refl _ | exact .cons _ (List.Sublist.refl _) | exact .cons _ (.cons _ (List.Sublist.refl _)) | exact .cons _ (.cons _ (.cons _ (List.Sublist.refl _))) | exact .cons _ (.cons _ (.cons _ (.cons _ (List.Sublist.refl _)))))
      refine dox_nil ?_
      -- normpath
      refine dox_cons ?_
      refine dox_If ?_
      refine trx_Compare ?_
      refine dox_row (i := 3) (j := 7) rfl rfl rfl hfr rfl ?_
      refine do_CallF D_normpath 10 rfl ?_
      refine do_args ?_
      refine do_loc 3 rfl rfl ?_
      refine do_args0 ?_
      refine do_ret_str (fn_normpath x tx (by omega)) rfl fun _ => ?_
      refine ⟨_, _, rfl, norm_al hx.al, by have := norm_len x; omega, fun l1 s1 n1 h1 h1l => ?_⟩
      refine DoX.of ?_
      refine do_CallF D_law_told 8 rfl ?_
      refine do_args ?_
      refine do_CallF D_law_walk 9 rfl ?_
      refine do_args ?_
      refine do_CallF D_law_names 6 rfl ?_
      refine do_args ?_
      refine do_loc 3 rfl rfl ?_
      refine do_args0 ?_
      refine do_fn (fn_law_names x tx (by omega)) rfl no_ro ?_
      rintro v nw' ⟨nl, ns, nn, rfl, rfl, hns⟩
      have hw1 := wt_names x
      have hw2 := wt_walk (namesOf x)
      have hw3 := wt_len (namesOf x)
      refine do_args0 ?_
      refine do_fn (fn_law_walk nl ns nn _ hns (by omega)) rfl (fun p hp => by rw [List.mem_singleton.mp hp]; exact .inl (.head _)) ?_
      rintro v nw' ⟨wl, ws, wn, rfl, rfl, hws⟩
      refine do_args0 ?_
      refine do_fn (fn_law_told wl ws wn _ hws (by omega)) rfl (fun p hp => by rw [List.mem_singleton.mp hp]; exact .inl (.head _)) ?_
      rintro v nw' ⟨fl, fs, fn, rfl, rfl, hf⟩
      rw [told_rw (fun y hy => names_al hx.al y (walk_mem hy)) (fine_walk hx)] at hf
      refine ne_LL (.inl (.tail _ (.tail _ (.tail _ (.head _))))) (.inl (.head _)) h1 hf ⟨_, rfl, fun hT => bad (rw_norm x) hT, fun hF => ?_⟩
      refine DoX.drop (nw' := (r, lstOf rs rn) :: nw) ?_ (by first | exact List.Sublist.refl _ | exact .cons _ (List.Sublist.refl _) | exact .cons _ (.cons _ (List.Sublist.refl _)) | exact .cons _ (.cons _ (.cons _ (List.Sublist.refl _))) | exact .cons _ (.cons _ (.cons _ (.cons _ (List.Sublist.refl _)))))
      refine dox_nil ?_
      -- append
      refine dox_cons ?_
      refine DoX.of ?_
      refine do_Expr ?_
      refine do_Meth F.plainAttrs_list F.slot_list_append F.type_list_append ?_
      refine do_loc 2 rfl rfl ?_
      rcases hkx with ⟨rfl, rfl⟩ | ⟨rfl, rfl⟩
      · obtain ⟨rn0, rfl⟩ := hR
        refine ⟨.list (.inl (.tail _ (.head _))), ?_⟩
        refine do_args ?_
        refine do_loc 4 rfl rfl ?_
        refine do_args0 ?_
        refine m_append (k := 1) rfl (Nat.zero_le _) (ret_none ?_)
        refine dox_nil ?_
        exact ⟨_, _, _, _, rfl, _, _, _, _, rfl, hr, hrl⟩
      · obtain ⟨rn0, r0, rs0, rm0, rfl, hr0, hr0l⟩ := hR
        refine ⟨.list (.inl (.tail _ (.tail _ (.head _)))), ?_⟩
        refine do_args ?_
        refine do_loc 4 rfl rfl ?_
        refine do_args0 ?_
        refine m_append (k := 2) rfl (Nat.le_of_ble_eq_true rfl) (ret_none ?_)
        refine dox_nil ?_
        exact ⟨_, _, _, _, rfl, _, _, _, _, _, _, _, rfl, hr0, hr0l, hr, hrl⟩
  · rintro vs nw ⟨x3, x4, x5, x6, rfl, rn, r, rs, rm, r', rs', rm', rfl, hr, hrl, hr', hrl'⟩
    have hAl := hA.len
    have hBl := hB.len
    refine dox_cons ?_
    refine DoX.of ?_
    refine do_AssignTuple ?_
    refine do_loc 1 rfl rfl ?_
    refine do_assignT ?_
    refine do_unpackL (.inl (.tail _ (.tail _ (.tail _ (.head _))))) rfl ?_
    refine do_inOrder (do_assignName (i := 7) rfl ?_)
    refine do_inOrder (do_assignName (i := 8) rfl ?_)
    refine do_inOrder0 ?_
    -- isabs
    refine dox_cons ?_
    refine dox_If (DoX.of ?_)
    refine tr_Compare ?_
    refine do_CallF D_isabs 5 rfl ?_
    refine do_args ?_
    refine do_loc 8 rfl rfl ?_
    refine do_args0 ?_
    refine do_fn (fn_isabs b u) rfl no_ro ?_
    rintro v nw' ⟨rfl, rfl⟩
    refine do_Compare ?_
    refine do_SliceS ?_
    refine do_loc 8 rfl rfl ?_
    refine do_part0 ?_
    refine do_part ?_
    refine do_int fun _ => ?_
    refine ⟨_, _, none, some (_, _), rfl, rfl, rfl, by omega, fun _ => ?_⟩
    refine do_S [47] (by decide +kernel) fun _ => ?_
    refine eq_ss ?_
    refine ne_bb ⟨_, rfl, fun hT => absurd hT (by dsimp only [Option.map]; rw [cut_one]; simp), fun hF => ?_⟩
    refine dox_nil ?_
    -- alone
    obtain ⟨B, hBe⟩ : ∃ B : Bool, B = (b.head? == some 47 || a.isEmpty) := ⟨_, rfl⟩
    refine dox_then (fun vs' nw' => vs' = [some (.ref l), some (.ref pl), some (.ref rl), x3, x4, x5, x6, some (.str (S a) t), some (.str (S b) u), some (.bool B), none, none, none] ∧ nw' = [(r', lstOf rs' rm'), (r, lstOf rs rm), (rl, lstOf [.ref r, .ref r'] rn), (pl, lstOf [.str (S a) t, .str (S b) u] pn)]) ?_ ?_
    · refine dox_Assign (i := 9) rfl (DoX.of ?_)
      refine do_Or ?_
      refine do_Compare ?_
      refine do_loc 7 rfl rfl ?_
      refine do_S [] (by decide +kernel) fun _ => ?_
      refine eq_ss ?_
      refine truthy_bool ⟨fun hT => ?_, fun hF => ?_⟩
      · have ha : a.isEmpty = true := by simpa using hT
        rw [ha, Bool.or_true] at hBe
        subst hBe
        rw [hT]
        exact ⟨rfl, rfl⟩
      · have ha : a.isEmpty = false := by simpa using hF
        rw [ha, Bool.or_false] at hBe
        refine do_Compare ?_
        refine do_SliceS ?_
        refine do_loc 8 rfl rfl ?_
        refine do_part0 ?_
        refine do_part ?_
        refine do_int fun _ => ?_
        refine ⟨_, _, none, some (_, _), rfl, rfl, rfl, by omega, fun _ => ?_⟩
        refine do_S [47] (by decide +kernel) fun _ => ?_
        refine eq_ss ?_
        dsimp only [Option.map]
        rw [cut_one, ← hBe]
        exact ⟨rfl, rfl⟩
    rintro vs nw ⟨rfl, rfl⟩
    -- whole
    refine dox_cons ?_
    refine dox_Assign (i := 10) rfl (DoX.of ?_)
    refine do_CallF D_join 1 rfl ?_
    refine do_args ?_
    refine do_loc 7 rfl rfl ?_
    refine do_args ?_
    refine do_loc 8 rfl rfl ?_
    refine do_args0 ?_
    refine do_ret_str (fn_join a b t u (by omega) (by omega)) rfl fun wt0 => ?_
    have hjo : joinOf a b = if B then b else if a.getLast? == some 47 then a ++ b else a ++ ([47] ++ b) := by rw [hBe]; rfl
    refine dox_then (fun vs' nw' => vs' = [some (.ref l), some (.ref pl), some (.ref rl), x3, x4, x5, x6, some (.str (S a) t), some (.str (S b) u), some (.bool B), some (.str (S (joinOf a b)) wt0), none, none] ∧ nw' = [(r', lstOf rs' rm'), (r, lstOf rs rm), (rl, lstOf [.ref r, .ref r'] rn), (pl, lstOf [.str (S a) t, .str (S b) u] pn)]) ?_ ?_
    · refine dox_If (DoX.of ?_)
      refine tr_Compare ?_
      refine do_loc 10 rfl rfl ?_
      refine do_IfExp ?_
      refine tr_val ?_
      refine do_loc 9 rfl rfl ?_
      refine truthy_bool ⟨fun hT => ?_, fun hF => ?_⟩
      · rw [if_pos hT] at hjo
        refine do_loc 8 rfl rfl ?_
        refine ne_ss ⟨_, rfl, fun hT => absurd hT (by rw [hjo]; simp), fun hF => ?_⟩
        exact dox_nil ⟨rfl, rfl⟩
      · rw [if_neg (by rw [hF]; decide)] at hjo
        refine do_BinOp ?_
        refine do_BinOp ?_
        refine do_loc 7 rfl rfl ?_
        refine do_IfExp ?_
        refine tr_Compare ?_
        refine do_SliceS ?_
        refine do_loc 7 rfl rfl ?_
        refine do_part ?_
        refine do_UnaryOp ?_
        refine do_int fun _ => ?_
        refine neg_i fun _ => ?_
        refine do_part0 ?_
        refine ⟨_, _, some (_, _), none, rfl, rfl, rfl, by omega, fun _ => ?_⟩
        refine do_S [47] (by decide +kernel) fun _ => ?_
        dsimp only [Option.map]
        refine eq_ss ⟨_, rfl, ?_⟩
        rw [cut_end]
        refine ⟨fun hT => ?_, fun hF => ?_⟩
        · rw [if_pos hT] at hjo
          refine do_S [] (by decide +kernel) fun _ => ?_
          refine add_ss (by simp; omega) fun _ => ?_
          refine do_loc 8 rfl rfl ?_
          refine add_ss (by simp; omega) fun _ => ?_
          refine ne_ss ⟨_, rfl, fun hT => absurd hT (by rw [hjo]; simp), fun hF => ?_⟩
          exact dox_nil ⟨rfl, rfl⟩
        · rw [if_neg (by rw [hF]; decide)] at hjo
          refine do_S [47] (by decide +kernel) fun _ => ?_
          refine add_ss (by simp; omega) fun _ => ?_
          refine do_loc 8 rfl rfl ?_
          refine add_ss (by simp; omega) fun _ => ?_
          refine ne_ss ⟨_, rfl, fun hT => absurd hT (by rw [hjo, List.append_assoc]; simp), fun hF => ?_⟩
          exact dox_nil ⟨rfl, rfl⟩
    rintro vs nw ⟨rfl, rfl⟩
    -- both
    refine dox_then (fun vs' nw' => ∃ m zs k, vs' = [some (.ref l), some (.ref pl), some (.ref rl), x3, x4, x5, x6, some (.str (S a) t), some (.str (S b) u), some (.bool B), some (.str (S (joinOf a b)) wt0), some (.ref m), none] ∧ (m, lstOf zs k) ∈ nw' ∧ Iss zs (Rw [joinOf a b])) ?_ ?_
    · refine dox_Assign (i := 11) rfl (DoX.of ?_)
      have hrj := rw_join a b
      rw [← hBe] at hrj
      refine do_IfExp ?_
      refine tr_val ?_
      refine do_loc 9 rfl rfl ?_
      refine truthy_bool ⟨fun hT => ?_, fun hF => ?_⟩
      · rw [if_pos hT] at hrj
        refine do_Sub ?_
        refine do_loc 2 rfl rfl ?_
        refine do_int fun _ => ?_
        refine item_L (k := 1) rfl (.inl (.tail _ (.tail _ (.head _)))) rfl (Nat.le_of_ble_eq_true rfl) ?_
        exact ⟨_, _, _, rfl, .head _, hrj ▸ hr'⟩
      · rw [if_neg (by rw [hF]; decide)] at hrj
        refine do_BinOp ?_
        refine do_Sub ?_
        refine do_loc 2 rfl rfl ?_
        refine do_int fun _ => ?_
        refine item_L (k := 0) rfl (.inl (.tail _ (.tail _ (.head _)))) rfl (Nat.le_of_ble_eq_true rfl) ?_
        refine do_Sub ?_
        refine do_loc 2 rfl rfl ?_
        refine do_int fun _ => ?_
        refine item_L (k := 1) rfl (.inl (.tail _ (.tail _ (.head _)))) rfl (Nat.le_of_ble_eq_true rfl) ?_
        refine add_LL (.inl (.tail _ (.head _))) (.inl (.head _)) (by omega) fun m => ?_
        exact ⟨_, _, _, rfl, .head _, hrj ▸ Iss.app hr hr'⟩
    rintro vs nw ⟨m, zs, k, rfl, hm, hzs⟩
    refine dox_cons ?_
    refine dox_If ?_
    refine trx_Compare ?_
    refine dox_row (i := 3) (j := 7) rfl rfl rfl hfr rfl ?_
    refine do_loc 10 rfl rfl ?_
    refine ⟨_, _, rfl, hJ, by omega, fun l1 s1 n1 h1 h1l => ?_⟩
    refine DoX.of ?_
    refine do_loc 11 rfl rfl ?_
    refine ne_LL (.inl (.head _)) (.inl (.tail _ hm)) h1 hzs ⟨_, rfl, fun hT => bad rfl hT, fun hF => ?_⟩
    refine DoX.drop (nw' := nw) ?_ (.cons _ (List.Sublist.refl _))
    refine dox_nil ?_
    -- climb
    refine dox_cons ?_
    refine dox_Assign (i := 12) rfl (DoX.of ?_)
    refine do_CallF D_law_climb 2 rfl ?_
    refine do_args ?_
    refine do_loc 10 rfl rfl ?_
    refine do_args0 ?_
    refine do_fn (fn_law_climb (joinOf a b) wt0 (by omega)) rfl no_ro ?_
    rintro v nw' ⟨al, as, an, rfl, rfl, has⟩
    rw [hcl] at has
    have hw1 := wt_names (joinOf a b)
    have hw3 := wt_len (namesOf (joinOf a b))
    have hasl : as.length = (namesOf (joinOf a b)).length := has.len
    refine dox_cons ?_
    refine dox_If (DoX.of ?_)
    refine tr_Compare ?_
    refine do_loc 12 rfl rfl ?_
    refine do_CallF D_law_names 6 rfl ?_
    refine do_args ?_
    refine do_loc 10 rfl rfl ?_
    refine do_args0 ?_
    refine do_fn (fn_law_names (joinOf a b) wt0 (by omega)) rfl no_ro ?_
    rintro v nw' ⟨nl, ns, nn, rfl, rfl, hns⟩
    refine ne_LL (.inl (.tail _ (.head _))) (.inl (.head _)) has.iss hns.iss ⟨_, rfl, fun hT => bad rfl hT, fun hF => ?_⟩
    refine dox_nil ?_
    -- the parts
    refine dox_cons ?_
    refine dox_Return ?_
    refine dox_Compare ?_
    refine dox_rowS (i := 3) (j := 7) rfl rfl rfl hfr rfl ?_
    refine do_loc 12 rfl rfl ?_
    refine ⟨al, as, an, _, rfl, .inl (.tail _ (.head _)), has, names_al hJ, by omega, fun l1 s1 n1 h1 h1l => ?_⟩
    refine DoX.of ?_
    refine do_loc 11 rfl rfl ?_
    refine eq_LL (.inl (.head _)) (.inl (.tail _ (.tail _ (.tail _ hm)))) h1 hzs ?_
    rw [rw_names, decide_eq_true rfl]
    exact ⟨[], List.nil_sublist _, rfl, rfl⟩
end Mine
end

section
open PySem PySem.W PySem.Calls PyProof.Rows
set_option maxRecDepth 100000
set_option linter.unusedVariables false
namespace Mine

theorem kLaw (w : World) : (nsIn (KK w) mainGlobals lawD.name == some (some (.ref 260))) = true := by kernel_rfl
theorem ints_of {R : WRecords} {cl : Str → Option Addr} {h : Heap} : ∀ {vs : List Value} {xs : List WData} {as : List Addr}, ReadsAllW R cl h vs xs as → WShape.hasItems R xs .int = true → AllInt vs ∧ vs.length = xs.length
  | _, _, _, .nil, _ => ⟨fun v hv => (nomatch hv), rfl⟩
  | _, _, _, .cons r1 r2, hh => by
    simp only [WShape.hasItems, Bool.and_eq_true] at hh
    obtain ⟨i, rfl⟩ := hasW_int hh.1
    obtain ⟨h1, h2⟩ := ints_of r2 hh.2
    cases r1
    refine ⟨fun v hv => ?_, by simp [h2]⟩
    rcases List.mem_cons.mp hv with rfl | hv
    · exact ⟨_, _, rfl⟩
    · exact h1 v hv
theorem rm4 : Rm 4 callerA := ⟨rfl, by decide, by decide⟩
theorem most63 {xs : List WData} (h : RW.pre.holds RW.toRowW.records { args := [.list xs] } = true) : xs.length ≤ 63 := by
  have h' : (WTm.and (.not (.lt (.lit (.int 63)) (.len (.arg 0)))) (.lit (.bool true))).holds [] { args := [.list xs] } = true := h
  have hv : (WTm.and (.not (.lt (.lit (.int 63)) (.len (.arg 0)))) (.lit (.bool true))).value [] { args := [.list xs] } = some (.bool ((!decide ((63 : Int) < (xs.length : Int))) && true)) :=
    w_and (w_not (w_lt w_lit (by simp [WTm.value]))) w_lit
  unfold WTm.holds at h'
  rw [hv, Bool.and_true] at h'
  by_cases hx : (63 : Int) < (xs.length : Int)
  · rw [decide_eq_true hx] at h'
    exact absurd h' (by decide)
  · omega
theorem post_ok (xs : List WData) : RW.toRowW.claim.post [.list xs] (.bool true) [.list xs] = true := by
  have h1 : WShape.has RW.toRowW.records (.bool true) RW.toRowW.returns = true := by
    show WShape.has [] (.bool true) .bool = true
    decide
  have h2 : RW.toRowW.post.holds RW.toRowW.records { args := [.list xs], res := some (.bool true), after := [.list xs] } = true := by
    show (WTm.eq .res (.lit (.bool true))).holds [] { args := [.list xs], res := some (.bool true), after := [.list xs] } = true
    have hv : (WTm.eq .res (.lit (.bool true))).value [] { args := [.list xs], res := some (.bool true), after := [.list xs] } = some (.bool (true == true)) := w_eq_bool (w_res rfl) w_lit
    unfold WTm.holds
    rw [hv]; rfl
  exact Bool.and_eq_true_iff.mpr ⟨h1, h2⟩
theorem oldK_of {w : World} {s s' : Shared} {v : Value} {nw : Nw} {Post : Value → Nw → Prop} (G : Gr w s.heap) (F : FnR w s Post v nw s') : OldK s.heap s'.heap := by
  obtain ⟨ps, _, t⟩ := G.tab
  obtain ⟨vs, more, e1, e2⟩ := F.t53 _ t.2
  cases e1
  refine (OldK.refl s.heap).step_table (more := more) t t ⟨?_, e2⟩ (fun b o hb e => F.keep b o hb e) (by decide)
  obtain ⟨⟨o', vs', a', r'⟩, _⟩ := t
  exact ⟨o', vs', F.keep _ _ (by decide) a', r'⟩

theorem walkY : WalkY hd.view_39 lLoose (XL hd.view_39 []) hook.says RW.toRowW lawD [] := by
  intro w s₀ s₁ mg mb G Y a o pm cd doc dV kV h1 h2 h3 h4 h5 hgens args vals as hpre hlay hrd hwell hsys
  have K : (KK w).In s₁.heap := kIn_of Y
  have R := gr_of G K
  have ha : mg lawD.name = some (.ref 260) := mg_of K G.T.g (eq_of_beq (kLaw w))
  rw [h5] at ha
  cases ha
  obtain ⟨p1, p2⟩ := pre_splitW hpre
  obtain ⟨d, r, rfl, q1, q2⟩ := hasAllW_cons p1
  obtain rfl := hasAllW_nil q2
  obtain ⟨xs, rfl, q3⟩ := hasW_list q1
  have hlen := most63 p2
  cases hrd with
  | cons r1 r2 =>
  cases r2
  cases r1 with
  | @list l ob vs n _ as' g1 g2 g3 g4 =>
  obtain ⟨hi, hl⟩ := ints_of g4 q3
  refine wpX_runValue (codeX_mono (fn_law l ob vs.toList n g2 (by simpa using g3) hi (by rw [hl]; exact hlen) w callerA s₁ rm4 rfl R ?_ fun p hp => ?_) fun r s' hr => ?_)
  · exact .of_eq hgens
  · rw [List.mem_singleton.mp hp]
    refine ⟨g1, fun e => ?_⟩
    obtain ⟨ps, _, t⟩ := R.tab
    have e' : l = 53 := e
    rw [e', t.2] at g1
    cases g1
    cases g2
  · obtain ⟨v, nw, rfl, F⟩ := hr
    obtain ⟨rfl, rfl⟩ := F.post
    refine ⟨.inl ⟨.bool true, .bool true, [], rfl, fun cls => rfl, .bool _, post_ok _, fun _ => ⟨List.nodup_nil, fun a ha => nomatch ha⟩⟩, oldK_of R F, F.os, F.gens⟩

theorem holds : PySem.Challenge.rw_pd0012_01.Holds := headY walkY
end Mine
end

theorem PySem.Challenge.cw_pd0012_01_holds : PySem.Challenge.rw_pd0012_01.Holds :=
  Mine.holds
