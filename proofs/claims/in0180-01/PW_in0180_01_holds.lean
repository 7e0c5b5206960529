import PyProof.Rows.All
import Wide.All
import OpenK.AllK
import Wide.FinOn
import Lean
import PySem.Challenge.RW_in0180_01
set_option Elab.async false
set_option maxRecDepth 100000
set_option linter.all false
set_option genInjectivity false
set_option genSizeOf false
set_option tactic.hygienic false
set_option maxHeartbeats 40000000
namespace Mine
open PySem PySem.W PyProof.Rows PySem.Calls
open PySem.Str (ofString)
open List (length_map mem_cons map_append mem_append_right mem_append_left append_assoc mem_singleton mem_append toArray length_cons getElem?_map mem_map_of_mem map_cons getElem?_append_left nodup_append size_toArray getElem?_eq_getElem getElem?_append_right mem_of_getElem? lookup_cons nodup_cons mapM_cons cons_append not_mem_nil length_take nil_append nodup_nil append_nil length_singleton take_succ_eq_append_getElem all_eq_true length_range mem_map getElem_mem foldl_append getElem?_of_mem getElem?_toArray all_map take_length all_cons length_nil map_nil any_cons Sublist range_succ any_nil)
open Nat (lt_of_lt_of_le ne_of_lt le_trans lt_trans add_lt_add_left le_refl ne_of_gt zero_le le_of_lt le_of_ble_eq_true sub_self lt_succ_self lt_succ_of_lt zero_add le_add_right le_of_eq le_succ)
open Option (isSome_iff_exists)
section
universe u1 u2 u3 u4 u5 u6 u7 u8 u9 u10 u11 u12 u13
theorem aM1 {t1:Sort u1} {P1:t1→Prop} {P2:t1→Prop} {Z:t1→Prop} (a1:t1) (h1:P1 a1) (h2:P2 a1) (hz:Z a1):∃ a1:t1,P1 a1∧P2 a1∧Z a1:=⟨a1,h1,h2,hz⟩
theorem bZ3 {t1:Sort u1} {P1:t1→Prop} {P2:t1→Prop} {P3:t1→Prop} {P4:t1→Prop} {P5:t1→Prop} {Z:t1→Prop} (a1:t1) (h1:P1 a1) (h2:P2 a1) (h3:P3 a1) (h4:P4 a1) (h5:P5 a1) (hz:Z a1):∃ a1:t1,P1 a1∧P2 a1∧P3 a1∧P4 a1∧P5 a1∧Z a1:=⟨a1,h1,h2,h3,h4,h5,hz⟩
theorem bM6 {t1:Sort u1} {P1:t1→Prop} {P2:t1→Prop} {P3:t1→Prop} {Z:t1→Prop} (a1:t1) (h1:P1 a1) (h2:P2 a1) (h3:P3 a1) (hz:Z a1):∃ a1:t1,P1 a1∧P2 a1∧P3 a1∧Z a1:=⟨a1,h1,h2,h3,hz⟩
theorem aA0 {t1:Sort u1} {P1:t1→Prop} {Z:t1→Prop} (a1:t1) (h1:P1 a1) (hz:Z a1):∃ a1:t1,P1 a1∧Z a1:=⟨a1,h1,hz⟩
theorem aT2 {t1:Sort u1} {t2:Sort u2} {Z:t1→t2→Prop} (a1:t1) (a2:t2) (hz:Z a1 a2):∃ a1:t1,∃ a2:t2,Z a1 a2:=⟨a1,a2,hz⟩
end
section
universe u1 u2 u3 u4 u5 u6 u7
theorem aE8 {P1 Z:Prop} {C:Prop} (h:P1∧Z) (k:P1→Z→C):C:=h.elim fun h1 h=>k h1 h
theorem aJ9 {t1:Sort u1} {Z:t1→Prop} {C:Prop} (h:∃ a1,Z a1) (k:∀ a1,Z a1→C):C:=h.elim fun a1 h=>k a1 h
theorem aH8 {P1 P2 Z:Prop} {C:Prop} (h:P1∧P2∧Z) (k:P1→P2→Z→C):C:=h.elim fun h1 h=>h.elim fun h2 h=>k h1 h2 h
theorem aY5 {t1:Sort u1} {t2:Sort u2} {Z:t1→t2→Prop} {C:Prop} (h:∃ a1 a2,Z a1 a2) (k:∀ a1 a2,Z a1 a2→C):C:=h.elim fun a1 h=>h.elim fun a2 h=>k a1 a2 h
theorem bT7 {P1 P2 P3 Z:Prop} {C:Prop} (h:P1∧P2∧P3∧Z) (k:P1→P2→P3→Z→C):C:=h.elim fun h1 h=>h.elim fun h2 h=>h.elim fun h3 h=>k h1 h2 h3 h
theorem bK2 {t1:Sort u1} {t2:Sort u2} {t3:Sort u3} {Z:t1→t2→t3→Prop} {C:Prop} (h:∃ a1 a2 a3,Z a1 a2 a3) (k:∀ a1 a2 a3,Z a1 a2 a3→C):C:=h.elim fun a1 h=>h.elim fun a2 h=>h.elim fun a3 h=>k a1 a2 a3 h
theorem aS2 {P1 P2 P3 P4 Z:Prop} {C:Prop} (h:P1∧P2∧P3∧P4∧Z) (k:P1→P2→P3→P4→Z→C):C:=h.elim fun h1 h=>h.elim fun h2 h=>h.elim fun h3 h=>h.elim fun h4 h=>k h1 h2 h3 h4 h
theorem aP1 {t1:Sort u1} {t2:Sort u2} {t3:Sort u3} {t4:Sort u4} {Z:t1→t2→t3→t4→Prop} {C:Prop} (h:∃ a1 a2 a3 a4,Z a1 a2 a3 a4) (k:∀ a1 a2 a3 a4,Z a1 a2 a3 a4→C):C:=h.elim fun a1 h=>h.elim fun a2 h=>h.elim fun a3 h=>h.elim fun a4 h=>k a1 a2 a3 a4 h
theorem aL6 {P1 P2 P3 P4 P5 Z:Prop} {C:Prop} (h:P1∧P2∧P3∧P4∧P5∧Z) (k:P1→P2→P3→P4→P5→Z→C):C:=h.elim fun h1 h=>h.elim fun h2 h=>h.elim fun h3 h=>h.elim fun h4 h=>h.elim fun h5 h=>k h1 h2 h3 h4 h5 h
theorem bQ4 {t1:Sort u1} {t2:Sort u2} {t3:Sort u3} {t4:Sort u4} {t5:Sort u5} {Z:t1→t2→t3→t4→t5→Prop} {C:Prop} (h:∃ a1 a2 a3 a4 a5,Z a1 a2 a3 a4 a5) (k:∀ a1 a2 a3 a4 a5,Z a1 a2 a3 a4 a5→C):C:=h.elim fun a1 h=>h.elim fun a2 h=>h.elim fun a3 h=>h.elim fun a4 h=>h.elim fun a5 h=>k a1 a2 a3 a4 a5 h
theorem cI7 {P1 P2 P3 P4 P5 P6 Z:Prop} {C:Prop} (h:P1∧P2∧P3∧P4∧P5∧P6∧Z) (k:P1→P2→P3→P4→P5→P6→Z→C):C:=h.elim fun h1 h=>h.elim fun h2 h=>h.elim fun h3 h=>h.elim fun h4 h=>h.elim fun h5 h=>h.elim fun h6 h=>k h1 h2 h3 h4 h5 h6 h
theorem bJ {t1:Sort u1} {t2:Sort u2} {t3:Sort u3} {t4:Sort u4} {t5:Sort u5} {t6:Sort u6} {Z:t1→t2→t3→t4→t5→t6→Prop} {C:Prop} (h:∃ a1 a2 a3 a4 a5 a6,Z a1 a2 a3 a4 a5 a6) (k:∀ a1 a2 a3 a4 a5 a6,Z a1 a2 a3 a4 a5 a6→C):C:=h.elim fun a1 h=>h.elim fun a2 h=>h.elim fun a3 h=>h.elim fun a4 h=>h.elim fun a5 h=>h.elim fun a6 h=>k a1 a2 a3 a4 a5 a6 h
theorem bV9 {t1:Sort u1} {t2:Sort u2} {t3:Sort u3} {t4:Sort u4} {t5:Sort u5} {t6:Sort u6} {t7:Sort u7} {Z:t1→t2→t3→t4→t5→t6→t7→Prop} {C:Prop} (h:∃ a1 a2 a3 a4 a5 a6 a7,Z a1 a2 a3 a4 a5 a6 a7) (k:∀ a1 a2 a3 a4 a5 a6 a7,Z a1 a2 a3 a4 a5 a6 a7→C):C:=h.elim fun a1 h=>h.elim fun a2 h=>h.elim fun a3 h=>h.elim fun a4 h=>h.elim fun a5 h=>h.elim fun a6 h=>h.elim fun a7 h=>k a1 a2 a3 a4 a5 a6 a7 h
theorem aA3 {t1:Sort u1} {P1 Z:t1→Prop} {C:Prop} (h:∃ a1,P1 a1∧Z a1) (k:∀ a1,P1 a1→Z a1→C):C:=aJ9 h fun a1 h=>aE8 h (k a1)
theorem aI8 {t1:Sort u1} {P1 P2 Z:t1→Prop} {C:Prop} (h:∃ a1,P1 a1∧P2 a1∧Z a1) (k:∀ a1,P1 a1→P2 a1→Z a1→C):C:=aJ9 h fun a1 h=>aH8 h (k a1)
theorem aG9 {t1:Sort u1} {t2:Sort u2} {P1 Z:t1→t2→Prop} {C:Prop} (h:∃ a1 a2,P1 a1 a2∧Z a1 a2) (k:∀ a1 a2,P1 a1 a2→Z a1 a2→C):C:=aY5 h fun a1 a2 h=>aE8 h (k a1 a2)
theorem aD1 {t1:Sort u1} {t2:Sort u2} {P1 P2 Z:t1→t2→Prop} {C:Prop} (h:∃ a1 a2,P1 a1 a2∧P2 a1 a2∧Z a1 a2) (k:∀ a1 a2,P1 a1 a2→P2 a1 a2→Z a1 a2→C):C:=aY5 h fun a1 a2 h=>aH8 h (k a1 a2)
theorem aP4 {t1:Sort u1} {t2:Sort u2} {t3:Sort u3} {P1 Z:t1→t2→t3→Prop} {C:Prop} (h:∃ a1 a2 a3,P1 a1 a2 a3∧Z a1 a2 a3) (k:∀ a1 a2 a3,P1 a1 a2 a3→Z a1 a2 a3→C):C:=bK2 h fun a1 a2 a3 h=>aE8 h (k a1 a2 a3)
theorem aR {t1:Sort u1} {t2:Sort u2} {P1 P2 P3 Z:t1→t2→Prop} {C:Prop} (h:∃ a1 a2,P1 a1 a2∧P2 a1 a2∧P3 a1 a2∧Z a1 a2) (k:∀ a1 a2,P1 a1 a2→P2 a1 a2→P3 a1 a2→Z a1 a2→C):C:=aY5 h fun a1 a2 h=>bT7 h (k a1 a2)
theorem bC8 {t1:Sort u1} {t2:Sort u2} {t3:Sort u3} {P1 P2 Z:t1→t2→t3→Prop} {C:Prop} (h:∃ a1 a2 a3,P1 a1 a2 a3∧P2 a1 a2 a3∧Z a1 a2 a3) (k:∀ a1 a2 a3,P1 a1 a2 a3→P2 a1 a2 a3→Z a1 a2 a3→C):C:=bK2 h fun a1 a2 a3 h=>aH8 h (k a1 a2 a3)
theorem aM0 {t1:Sort u1} {t2:Sort u2} {t3:Sort u3} {t4:Sort u4} {P1 Z:t1→t2→t3→t4→Prop} {C:Prop} (h:∃ a1 a2 a3 a4,P1 a1 a2 a3 a4∧Z a1 a2 a3 a4) (k:∀ a1 a2 a3 a4,P1 a1 a2 a3 a4→Z a1 a2 a3 a4→C):C:=aP1 h fun a1 a2 a3 a4 h=>aE8 h (k a1 a2 a3 a4)
theorem bH1 {t1:Sort u1} {P1 P2 P3 P4 P5 Z:t1→Prop} {C:Prop} (h:∃ a1,P1 a1∧P2 a1∧P3 a1∧P4 a1∧P5 a1∧Z a1) (k:∀ a1,P1 a1→P2 a1→P3 a1→P4 a1→P5 a1→Z a1→C):C:=aJ9 h fun a1 h=>aL6 h (k a1)
theorem aM5 {t1:Sort u1} {t2:Sort u2} {P1 P2 P3 P4 Z:t1→t2→Prop} {C:Prop} (h:∃ a1 a2,P1 a1 a2∧P2 a1 a2∧P3 a1 a2∧P4 a1 a2∧Z a1 a2) (k:∀ a1 a2,P1 a1 a2→P2 a1 a2→P3 a1 a2→P4 a1 a2→Z a1 a2→C):C:=aY5 h fun a1 a2 h=>aS2 h (k a1 a2)
theorem cF6 {t1:Sort u1} {t2:Sort u2} {t3:Sort u3} {P1 P2 P3 Z:t1→t2→t3→Prop} {C:Prop} (h:∃ a1 a2 a3,P1 a1 a2 a3∧P2 a1 a2 a3∧P3 a1 a2 a3∧Z a1 a2 a3) (k:∀ a1 a2 a3,P1 a1 a2 a3→P2 a1 a2 a3→P3 a1 a2 a3→Z a1 a2 a3→C):C:=bK2 h fun a1 a2 a3 h=>bT7 h (k a1 a2 a3)
theorem bW2 {t1:Sort u1} {t2:Sort u2} {P1 P2 P3 P4 P5 Z:t1→t2→Prop} {C:Prop} (h:∃ a1 a2,P1 a1 a2∧P2 a1 a2∧P3 a1 a2∧P4 a1 a2∧P5 a1 a2∧Z a1 a2) (k:∀ a1 a2,P1 a1 a2→P2 a1 a2→P3 a1 a2→P4 a1 a2→P5 a1 a2→Z a1 a2→C):C:=aY5 h fun a1 a2 h=>aL6 h (k a1 a2)
theorem bB1 {t1:Sort u1} {t2:Sort u2} {t3:Sort u3} {P1 P2 P3 P4 Z:t1→t2→t3→Prop} {C:Prop} (h:∃ a1 a2 a3,P1 a1 a2 a3∧P2 a1 a2 a3∧P3 a1 a2 a3∧P4 a1 a2 a3∧Z a1 a2 a3) (k:∀ a1 a2 a3,P1 a1 a2 a3→P2 a1 a2 a3→P3 a1 a2 a3→P4 a1 a2 a3→Z a1 a2 a3→C):C:=bK2 h fun a1 a2 a3 h=>aS2 h (k a1 a2 a3)
theorem aR8 {t1:Sort u1} {t2:Sort u2} {t3:Sort u3} {t4:Sort u4} {P1 P2 P3 Z:t1→t2→t3→t4→Prop} {C:Prop} (h:∃ a1 a2 a3 a4,P1 a1 a2 a3 a4∧P2 a1 a2 a3 a4∧P3 a1 a2 a3 a4∧Z a1 a2 a3 a4) (k:∀ a1 a2 a3 a4,P1 a1 a2 a3 a4→P2 a1 a2 a3 a4→P3 a1 a2 a3 a4→Z a1 a2 a3 a4→C):C:=aP1 h fun a1 a2 a3 a4 h=>bT7 h (k a1 a2 a3 a4)
theorem bY6 {t1:Sort u1} {t2:Sort u2} {t3:Sort u3} {t4:Sort u4} {t5:Sort u5} {P1 P2 Z:t1→t2→t3→t4→t5→Prop} {C:Prop} (h:∃ a1 a2 a3 a4 a5,P1 a1 a2 a3 a4 a5∧P2 a1 a2 a3 a4 a5∧Z a1 a2 a3 a4 a5) (k:∀ a1 a2 a3 a4 a5,P1 a1 a2 a3 a4 a5→P2 a1 a2 a3 a4 a5→Z a1 a2 a3 a4 a5→C):C:=bQ4 h fun a1 a2 a3 a4 a5 h=>aH8 h (k a1 a2 a3 a4 a5)
theorem bW {t1:Sort u1} {t2:Sort u2} {t3:Sort u3} {t4:Sort u4} {t5:Sort u5} {t6:Sort u6} {P1 Z:t1→t2→t3→t4→t5→t6→Prop} {C:Prop} (h:∃ a1 a2 a3 a4 a5 a6,P1 a1 a2 a3 a4 a5 a6∧Z a1 a2 a3 a4 a5 a6) (k:∀ a1 a2 a3 a4 a5 a6,P1 a1 a2 a3 a4 a5 a6→Z a1 a2 a3 a4 a5 a6→C):C:=bJ h fun a1 a2 a3 a4 a5 a6 h=>aE8 h (k a1 a2 a3 a4 a5 a6)
theorem aX1 {t1:Sort u1} {t2:Sort u2} {t3:Sort u3} {t4:Sort u4} {P1 P2 P3 P4 Z:t1→t2→t3→t4→Prop} {C:Prop} (h:∃ a1 a2 a3 a4,P1 a1 a2 a3 a4∧P2 a1 a2 a3 a4∧P3 a1 a2 a3 a4∧P4 a1 a2 a3 a4∧Z a1 a2 a3 a4) (k:∀ a1 a2 a3 a4,P1 a1 a2 a3 a4→P2 a1 a2 a3 a4→P3 a1 a2 a3 a4→P4 a1 a2 a3 a4→Z a1 a2 a3 a4→C):C:=aP1 h fun a1 a2 a3 a4 h=>aS2 h (k a1 a2 a3 a4)
theorem bN1 {t1:Sort u1} {t2:Sort u2} {t3:Sort u3} {t4:Sort u4} {t5:Sort u5} {t6:Sort u6} {t7:Sort u7} {P1 Z:t1→t2→t3→t4→t5→t6→t7→Prop} {C:Prop} (h:∃ a1 a2 a3 a4 a5 a6 a7,P1 a1 a2 a3 a4 a5 a6 a7∧Z a1 a2 a3 a4 a5 a6 a7) (k:∀ a1 a2 a3 a4 a5 a6 a7,P1 a1 a2 a3 a4 a5 a6 a7→Z a1 a2 a3 a4 a5 a6 a7→C):C:=bV9 h fun a1 a2 a3 a4 a5 a6 a7 h=>aE8 h (k a1 a2 a3 a4 a5 a6 a7)
theorem bJ5 {t1:Sort u1} {t2:Sort u2} {t3:Sort u3} {t4:Sort u4} {P1 P2 P3 P4 P5 Z:t1→t2→t3→t4→Prop} {C:Prop} (h:∃ a1 a2 a3 a4,P1 a1 a2 a3 a4∧P2 a1 a2 a3 a4∧P3 a1 a2 a3 a4∧P4 a1 a2 a3 a4∧P5 a1 a2 a3 a4∧Z a1 a2 a3 a4) (k:∀ a1 a2 a3 a4,P1 a1 a2 a3 a4→P2 a1 a2 a3 a4→P3 a1 a2 a3 a4→P4 a1 a2 a3 a4→P5 a1 a2 a3 a4→Z a1 a2 a3 a4→C):C:=aP1 h fun a1 a2 a3 a4 h=>aL6 h (k a1 a2 a3 a4)
theorem bG7 {t1:Sort u1} {t2:Sort u2} {t3:Sort u3} {t4:Sort u4} {t5:Sort u5} {P1 P2 P3 P4 P5 Z:t1→t2→t3→t4→t5→Prop} {C:Prop} (h:∃ a1 a2 a3 a4 a5,P1 a1 a2 a3 a4 a5∧P2 a1 a2 a3 a4 a5∧P3 a1 a2 a3 a4 a5∧P4 a1 a2 a3 a4 a5∧P5 a1 a2 a3 a4 a5∧Z a1 a2 a3 a4 a5) (k:∀ a1 a2 a3 a4 a5,P1 a1 a2 a3 a4 a5→P2 a1 a2 a3 a4 a5→P3 a1 a2 a3 a4 a5→P4 a1 a2 a3 a4 a5→P5 a1 a2 a3 a4 a5→Z a1 a2 a3 a4 a5→C):C:=bQ4 h fun a1 a2 a3 a4 a5 h=>aL6 h (k a1 a2 a3 a4 a5)
theorem bF8 {t1:Sort u1} {t2:Sort u2} {t3:Sort u3} {t4:Sort u4} {t5:Sort u5} {t6:Sort u6} {P1 P2 P3 P4 Z:t1→t2→t3→t4→t5→t6→Prop} {C:Prop} (h:∃ a1 a2 a3 a4 a5 a6,P1 a1 a2 a3 a4 a5 a6∧P2 a1 a2 a3 a4 a5 a6∧P3 a1 a2 a3 a4 a5 a6∧P4 a1 a2 a3 a4 a5 a6∧Z a1 a2 a3 a4 a5 a6) (k:∀ a1 a2 a3 a4 a5 a6,P1 a1 a2 a3 a4 a5 a6→P2 a1 a2 a3 a4 a5 a6→P3 a1 a2 a3 a4 a5 a6→P4 a1 a2 a3 a4 a5 a6→Z a1 a2 a3 a4 a5 a6→C):C:=bJ h fun a1 a2 a3 a4 a5 a6 h=>aS2 h (k a1 a2 a3 a4 a5 a6)
end
theorem hide {P:Prop} (h:∀ G:Prop,(P→G)→G):P:=h P id
@[elab_as_elim] theorem rwg {α:Sort u} {a b:α} {P:α→Prop} (e:a=b) (h:P b):P a:=e▸h
@[elab_as_elim] theorem rwb {α:Sort u} {a b:α} {P:α→Prop} (e:a=b) (h:P a):P b:=e▸h
theorem bM8 {α:Type} {l:List α} (h:l.length=4):∃ a b c d,l=[a,b,c,d] :=
 (List.exists_cons_of_length_eq_add_one h).elim fun a h1=>h1.elim fun r1 e1=>(List.exists_cons_of_length_eq_add_one (l:=r1) (n:=2) (by rw [e1] at h;exact Nat.succ.inj h)).elim fun b h2=>h2.elim fun r2 e2 =>
  (List.exists_cons_of_length_eq_add_one (l:=r2) (n:=1) (by rw [e1,e2] at h;exact Nat.succ.inj (Nat.succ.inj h))).elim fun c h3=>h3.elim fun r3 e3 =>
   (List.exists_cons_of_length_eq_add_one (l:=r3) (n:=0) (by rw [e1,e2,e3] at h;exact Nat.succ.inj (Nat.succ.inj (Nat.succ.inj h)))).elim fun d h4=>h4.elim fun r4 e4 =>
    ⟨a,b,c,d,by rw [e1,e2,e3,e4,List.eq_nil_of_length_eq_zero (l:=r4) (by rw [e1,e2,e3,e4] at h;exact Nat.succ.inj (Nat.succ.inj (Nat.succ.inj (Nat.succ.inj h))))]⟩
theorem aA1 {α:Type u} {β:Type v} {o:Option α} {f:α→Option β} {b:β} {C:Prop} (h:o.bind f=some b) (k:∀ a,o=some a→f a=some b→C):C:=(Option.bind_eq_some_iff.mp h).elim fun a h=>k a h.1 h.2
theorem aB9 {α:Type u} {β:Type v} {o:Option α} {f:α→β} {b:β} {C:Prop} (h:o.map f=some b) (k:∀ a,o=some a→f a=b→C):C:=(Option.map_eq_some_iff.mp h).elim fun a h=>k a h.1 h.2
theorem aA6 {α:Type u} {β:Type v} {f:α→β} {b:β} {l:List α} {C:Prop} (h:b∈l.map f) (k:∀ a,a∈l→f a=b→C):C:=(mem_map.mp h).elim fun a h=>k a h.1 h.2
theorem aH5 {α:Type u} {l:List α} {i:Nat} {a:α} {C:Prop} (h:l[i]?=some a) (k:∀ q:i < l.length,l[i]=a→C):C:=(List.getElem?_eq_some_iff.mp h).elim k
noncomputable abbrev nth:List Stmt→Nat→Stmt
 | [],_=>default
 | a::_,0=>a
 | _::r,n + 1=>nth r n
noncomputable abbrev stM (k:Nat):Stmt:=nth PySem.Challenge.pw_in0180_01.main.body k
noncomputable abbrev clB (s:Stmt):List Stmt:=if h:s.ctorIdx=2 then Stmt.ClassDef.elim s h fun u_ u_ u_ b u_ u_ u_ u_ u_ u_ u_=>b else []
noncomputable abbrev stC (k:Nat):Stmt:=nth (clB (stM 32)) k
noncomputable abbrev fnD (s:Stmt):Str × Arguments × List Stmt × Scope:=if h:s.ctorIdx=0 then Stmt.FunctionDef.elim s h fun n a b u_ u_ u_ sc u_ u_ u_=>(n,a,b,sc) else default
noncomputable abbrev vS (x:String) (t:Nat):Value:=.str (ofString x) t
noncomputable abbrev dE (P:Params) (x:String) (t:Nat) (v:Value):DictEntry:=⟨PyData.keyHash P (ofString x),.str (ofString x) t,v⟩
noncomputable abbrev tO (vs:Array Value):Obj:=⟨.type "tuple",none,.seq vs,#[]⟩
noncomputable abbrev cO (x:String) (a:Nat) (y:String) (b c:Nat) (i j:Int) (d e:Addr) (u v:Value) (f:Addr) (g h:Int) (k:Nat):Obj :=
 ⟨.type "code",none,.fields #[vS x a,vS y b,vS "/claim/cut.py" c,.int i 0,.int j 0,.int 0 0,.int 0 0,.int 3 0,.ref d,.bool true,.int 276 0,.ref e,.none,u,v,.ref f,.int g 0,.int h 0,vS "/claim/cut.py" k],#[]⟩
noncomputable abbrev fO (s:Stmt) (q m:String) (t:Nat) (c:Addr):Obj :=
 ⟨.type "function",none,.func ⟨(fnD s).1,ofString q,(fnD s).2.1,.stmts (fnD s).2.2.1,(fnD s).2.2.2,3,[],.none,.none,.none,vS m t,none,.ref c,.none,0⟩,#[]⟩
noncomputable def hd.heap_39:Params→Frag:=fun P=>(nat_lit 2,Obj.mk .none none (Data.dict #[dE P "\x69mport.loaded._sre" 183 (.bool true),dE P "class._frozen_importlib.BuiltinImporter" 185 (.ref 14),dE P "watched.\x69mport" 206 (.ref 18),dE P "class._frozen_importlib.ModuleSpec" 216 (.ref 22),dE P "sys.modules.booked-epoch" 245 (.int 3 0),dE P "\x69mport.later-laid._sre" 270 (.bool true),dE P "watched.library" 272 (.ref 27),dE P "watched.library-objects" 0 (vS "\x0c" 0),dE P "watched.library-deep._sre" 273 (vS "\x04\x00\x00\x0b\x04\x00\x00\x0b\x04\x00\x00\x03\x04\x00\x00\x0b\x08\x04dict\x02" 0)] 9) #[]) ::
 (nat_lit 3,Obj.mk (.type "dict") none (Data.dict #[dE P "__name__" 165 (vS "law_in0180_01" 648),dE P "__doc__" 166 .none,dE P "__package__" 167 .none,dE P "__loader__" 168 (.builtin "__main__.__loader__#opaque"),dE P "__spec__" 169 .none,dE P "__annotations__" 170 (.ref 6),dE P "__builtins__" 171 (.ref 4),dE P "__file__" 173 (vS "/claim/cut.py" 172),dE P "__cached__" 174 .none,dE P "_sre" 275 (.ref 12),dE P "_wall" 288 (.ref 38),dE P "S_IFMT" 297 (.ref 45),dE P "S_IFDIR" 299 (.int 16384 298),dE P "S_IFCHR" 301 (.int 8192 300),dE P "S_IFBLK" 303 (.int 24576 302),dE P "S_IFREG" 305 (.int 32768 304),dE P "S_IFIFO" 307 (.int 4096 306),dE P "S_IFLNK" 309 (.int 40960 308),dE P "S_IFSOCK" 311 (.int 49152 310),dE P "S_ISUID" 313 (.int 2048 312),dE P "S_ISGID" 315 (.int 1024 314),dE P "S_ISVTX" 317 (.int 512 316),dE P "S_IRUSR" 319 (.int 256 318),dE P "S_IWUSR" 321 (.int 128 320),dE P "S_IXUSR" 323 (.int 64 322),dE P "S_IRGRP" 325 (.int 32 324),dE P "S_IWGRP" 327 (.int 16 326),dE P "S_IXGRP" 329 (.int 8 328),dE P "S_IROTH" 331 (.int 4 330),dE P "S_IWOTH" 333 (.int 2 332),dE P "S_IXOTH" 335 (.int 1 334),dE P "_filemode_table" 361 (.ref 78),dE P "filemode" 373 (.ref 85),dE P "_twin_re_1" 411 (.ref 90),dE P "_special_chars_map" 559 (.ref 92),dE P "escape" 566 (.ref 102),dE P "_translate" 587 (.ref 109),dE P "_netrclex" 647 (.ref 147),dE P "_law_items" 655 (.ref 156),dE P "_law_signs" 667 (.ref 163),dE P "_law_written" 673 (.ref 168),dE P "_law_stream" 682 (.ref 175),dE P "_law_step" 688 (.ref 180),dE P "_law_meant" 700 (.ref 187),dE P "_law_taken" 706 (.ref 192),dE P "_law_laid" 712 (.ref 197),dE P "law" 718 (.ref 202)] 47) #[]) ::
 (nat_lit 32,tO #[]) ::
 (nat_lit 34,tO #[vS "k" 285]) ::
 (nat_lit 35,tO #[]) ::
 (nat_lit 37,cO "_wall" 282 "_wall" 283 284 2 1 32 33 (.ref 34) (.ref 35) 36 286 2 287) ::
 (nat_lit 38,fO (stM 1) "_wall" "__main__" 164 37) ::
 (nat_lit 39,tO #[]) ::
 (nat_lit 41,tO #[vS "mode" 294]) ::
 (nat_lit 42,tO #[]) ::
 (nat_lit 44,cO "S_IFMT" 291 "S_IFMT" 292 293 6 1 39 40 (.ref 41) (.ref 42) 43 295 6 296) ::
 (nat_lit 45,fO (stM 3) "S_IFMT" "cpy313.stat" 289 44) ::
 (nat_lit 46,tO #[.int 40960 308,vS "l" 336]) ::
 (nat_lit 47,tO #[.int 49152 310,vS "s" 337]) ::
 (nat_lit 48,tO #[.int 32768 304,vS "-" 338]) ::
 (nat_lit 49,tO #[.int 24576 302,vS "b" 339]) ::
 (nat_lit 50,tO #[.int 16384 298,vS "d" 340]) ::
 (nat_lit 51,tO #[.int 8192 300,vS "c" 341]) ::
 (nat_lit 52,tO #[.int 4096 306,vS "p" 342]) ::
 (nat_lit 53,tO #[.ref 46,.ref 47,.ref 48,.ref 49,.ref 50,.ref 51,.ref 52]) ::
 (nat_lit 54,tO #[.int 256 318,vS "r" 343]) ::
 (nat_lit 55,tO #[.ref 54]) ::
 (nat_lit 56,tO #[.int 128 320,vS "w" 344]) ::
 (nat_lit 57,tO #[.ref 56]) ::
 (nat_lit 58,tO #[.int 2112 345,vS "s" 346]) ::
 (nat_lit 59,tO #[.int 2048 312,vS "S" 347]) ::
 (nat_lit 60,tO #[.int 64 322,vS "x" 348]) ::
 (nat_lit 61,tO #[.ref 58,.ref 59,.ref 60]) ::
 (nat_lit 62,tO #[.int 32 324,vS "r" 349]) ::
 (nat_lit 63,tO #[.ref 62]) ::
 (nat_lit 64,tO #[.int 16 326,vS "w" 350]) ::
 (nat_lit 65,tO #[.ref 64]) ::
 (nat_lit 66,tO #[.int 1032 351,vS "s" 352]) ::
 (nat_lit 67,tO #[.int 1024 314,vS "S" 353]) ::
 (nat_lit 68,tO #[.int 8 328,vS "x" 354]) ::
 (nat_lit 69,tO #[.ref 66,.ref 67,.ref 68]) ::
 (nat_lit 70,tO #[.int 4 330,vS "r" 355]) ::
 (nat_lit 71,tO #[.ref 70]) ::
 (nat_lit 72,tO #[.int 2 332,vS "w" 356]) ::
 (nat_lit 73,tO #[.ref 72]) ::
 (nat_lit 74,tO #[.int 513 357,vS "t" 358]) ::
 (nat_lit 75,tO #[.int 512 316,vS "T" 359]) ::
 (nat_lit 76,tO #[.int 1 334,vS "x" 360]) ::
 (nat_lit 77,tO #[.ref 74,.ref 75,.ref 76]) ::
 (nat_lit 78,tO #[.ref 53,.ref 55,.ref 57,.ref 61,.ref 63,.ref 65,.ref 69,.ref 71,.ref 73,.ref 77]) ::
 (nat_lit 79,tO #[]) ::
 (nat_lit 81,tO #[vS "mode" 365,vS "perm" 366,vS "index" 367,vS "table" 368,vS "bit" 369,vS "char" 370]) ::
 (nat_lit 82,tO #[]) ::
 (nat_lit 84,cO "filemode" 362 "filemode" 363 364 28 1 79 80 (.ref 81) (.ref 82) 83 371 28 372) ::
 (nat_lit 85,fO (stM 24) "filemode" "cpy313.stat" 289 84) ::
 (nat_lit 89,tO #[.int 14 0,.int 14 0,.int 4 0,.int 1 0,.int 1 0,.int 9 0,.int 0 0,.int 64 0,.int 0 0,.int 1342177280 0,.int 0 0,.int 0 0,.int 0 0,.int 0 0,.int 0 0,.int 17 0,.int 0 0,.int 13 0,.int 11 0,.int 9 0,.int 0 0,.int 64 0,.int 0 0,.int 1342177280 0,.int 0 0,.int 0 0,.int 0 0,.int 0 0,.int 0 0,.int 17 0,.int 1 0,.int 1 0]) ::
 (nat_lit 90,Obj.mk (.type "re.Pattern") none (Data.fields #[vS "([&~|])" 375,.int 32 410,.int 1 0,.none,.none,.ref 89,.int 0 0]) #[]) ::
 (nat_lit 92,Obj.mk (.type "dict") none (Data.dict #[DictEntry.mk 40 (.int 40 415) (vS "\\(" 419),DictEntry.mk 41 (.int 41 421) (vS "\\)" 425),DictEntry.mk 91 (.int 91 427) (vS "\\[" 431),DictEntry.mk 93 (.int 93 433) (vS "\\]" 437),DictEntry.mk 123 (.int 123 439) (vS "\\{" 443),DictEntry.mk 125 (.int 125 445) (vS "\\}" 449),DictEntry.mk 63 (.int 63 451) (vS "\\?" 455),DictEntry.mk 42 (.int 42 457) (vS "\\*" 461),DictEntry.mk 43 (.int 43 463) (vS "\\+" 467),DictEntry.mk 45 (.int 45 469) (vS "\\-" 473),DictEntry.mk 124 (.int 124 475) (vS "\\|" 479),DictEntry.mk 94 (.int 94 481) (vS "\\^" 485),DictEntry.mk 36 (.int 36 487) (vS "\\$" 491),DictEntry.mk 92 (.int 92 493) (vS "\\\\" 497),DictEntry.mk 46 (.int 46 499) (vS "\\." 503),DictEntry.mk 38 (.int 38 505) (vS "\\&" 509),DictEntry.mk 126 (.int 126 511) (vS "\\~" 515),DictEntry.mk 35 (.int 35 517) (vS "\\#" 521),DictEntry.mk 32 (.int 32 523) (vS "\\ " 527),DictEntry.mk 9 (.int 9 529) (vS "\\\t" 533),DictEntry.mk 10 (.int 10 535) (vS "\\\n" 539),DictEntry.mk 13 (.int 13 541) (vS "\\\x0d" 545),DictEntry.mk 11 (.int 11 547) (vS "\\\x0b" 551),DictEntry.mk 12 (.int 12 553) (vS "\\\x0c" 557)] 24) #[]) ::
 (nat_lit 96,tO #[]) ::
 (nat_lit 98,tO #[vS "pattern" 563]) ::
 (nat_lit 99,tO #[]) ::
 (nat_lit 101,cO "escape" 560 "escape" 561 562 48 1 96 97 (.ref 98) (.ref 99) 100 564 48 565) ::
 (nat_lit 102,fO (stM 28) "escape" "re" 412 101) ::
 (nat_lit 103,tO #[]) ::
 (nat_lit 105,tO #[vS "pat" 572,vS "STAR" 573,vS "QUESTION_MARK" 574,vS "res" 575,vS "add" 576,vS "i" 577,vS "n" 578,vS "c" 579,vS "j" 580,vS "stuff" 581,vS "chunks" 582,vS "k" 583,vS "chunk" 584]) ::
 (nat_lit 106,tO #[]) ::
 (nat_lit 108,cO "_translate" 569 "_translate" 570 571 55 3 103 104 (.ref 105) (.ref 106) 107 585 55 586) ::
 (nat_lit 109,fO (stM 30) "_translate" "cpy313.fnmatch" 567 108) ::
 (nat_lit 117,tO #[]) ::
 (nat_lit 119,tO #[vS "self" 605,vS "fp" 606]) ::
 (nat_lit 120,tO #[]) ::
 (nat_lit 122,cO "__init__" 602 "_netrclex.__init__" 603 604 120 2 117 118 (.ref 119) (.ref 120) 121 607 120 608) ::
 (nat_lit 123,fO (stC 0) "_netrclex.__init__" "cpy313.netrc" 588 122) ::
 (nat_lit 124,tO #[]) ::
 (nat_lit 126,tO #[vS "self" 613,vS "ch" 614]) ::
 (nat_lit 127,tO #[]) ::
 (nat_lit 129,cO "_read_char" 610 "_netrclex._read_char" 611 612 126 1 124 125 (.ref 126) (.ref 127) 128 615 126 616) ::
 (nat_lit 130,fO (stC 1) "_netrclex._read_char" "cpy313.netrc" 588 129) ::
 (nat_lit 131,tO #[]) ::
 (nat_lit 133,tO #[vS "self" 621,vS "token" 622,vS "fiter" 623,vS "ch" 624]) ::
 (nat_lit 134,tO #[]) ::
 (nat_lit 136,cO "get_token" 618 "_netrclex.get_token" 619 620 132 1 131 132 (.ref 133) (.ref 134) 135 625 132 626) ::
 (nat_lit 137,fO (stC 2) "_netrclex.get_token" "cpy313.netrc" 588 136) ::
 (nat_lit 138,tO #[]) ::
 (nat_lit 140,tO #[vS "self" 631,vS "token" 632]) ::
 (nat_lit 141,tO #[]) ::
 (nat_lit 143,cO "push_token" 628 "_netrclex.push_token" 629 630 159 2 138 139 (.ref 140) (.ref 141) 142 633 159 634) ::
 (nat_lit 144,fO (stC 3) "_netrclex.push_token" "cpy313.netrc" 588 143) ::
 (nat_lit 145,tO #[vS "instream" 636,vS "lineno" 637,vS "pushback" 638,vS "whitespace" 639]) ::
 (nat_lit 146,Obj.mk (.type "dict") none (Data.dict #[dE P "__module__" 597 (vS "cpy313.netrc" 588),dE P "__firstlineno__" 601 (.int 118 600),dE P "__init__" 609 (.ref 123),dE P "_read_char" 617 (.ref 130),dE P "get_token" 627 (.ref 137),dE P "push_token" 635 (.ref 144),dE P "__static_attributes__" 640 (.ref 145),dE P "__dict__" 642 (.ref 148),dE P "__weakref__" 644 (.ref 149),dE P "__doc__" 645 .none] 4) #[]) ::
 (nat_lit 147,Obj.mk (.type "type") none (Data.cls (ClassData.mk (ofString "_netrclex") [.type "object"] [.ref 147,.type "object"] 146 (ofString "_netrclex") true [] [] false none false)) #[none,none,some (vS "_netrclex" 590),some (vS "_netrclex" 598),some (.builtin "object.__new__"),some (.bool true)]) ::
 (nat_lit 148,Obj.mk (.type "getset_descriptor") none (Data.fields #[vS "__dict__" 641,.ref 147,.builtin "function.__dict__",.builtin "function.__dict__#set"]) #[]) ::
 (nat_lit 149,Obj.mk (.type "getset_descriptor") none (Data.fields #[vS "__weakref__" 643,.ref 147,.builtin "ExceptionGroup.__weakref__",.none]) #[]) ::
 (nat_lit 152,tO #[]) ::
 (nat_lit 155,cO "_law_items" 650 "_law_items" 651 652 162 1 152 153 (.none) (.none) 154 653 162 654) ::
 (nat_lit 156,fO (stM 34) "_law_items" "law_in0180_01" 648 155) ::
 (nat_lit 157,tO #[]) ::
 (nat_lit 159,tO #[vS "bits" 659,vS "text" 660,vS "k" 661,vS "more" 662,vS "three" 663,vS "last" 664]) ::
 (nat_lit 160,tO #[]) ::
 (nat_lit 162,cO "_law_signs" 656 "_law_signs" 657 658 167 1 157 158 (.ref 159) (.ref 160) 161 665 167 666) ::
 (nat_lit 163,fO (stM 35) "_law_signs" "law_in0180_01" 648 162) ::
 (nat_lit 164,tO #[]) ::
 (nat_lit 167,cO "_law_written" 668 "_law_written" 669 670 175 2 164 165 (.none) (.none) 166 671 175 672) ::
 (nat_lit 168,fO (stM 36) "_law_written" "law_in0180_01" 648 167) ::
 (nat_lit 169,tO #[]) ::
 (nat_lit 171,tO #[vS "text" 677,vS "stream" 678]) ::
 (nat_lit 172,tO #[vS "signs" 679]) ::
 (nat_lit 174,cO "_law_stream" 674 "_law_stream" 675 676 178 1 169 170 (.ref 171) (.ref 172) 173 680 178 681) ::
 (nat_lit 175,fO (stM 37) "_law_stream" "law_in0180_01" 648 174) ::
 (nat_lit 176,tO #[]) ::
 (nat_lit 179,cO "_law_step" 683 "_law_step" 684 685 182 4 176 177 (.none) (.none) 178 686 182 687) ::
 (nat_lit 180,fO (stM 38) "_law_step" "law_in0180_01" 648 179) ::
 (nat_lit 181,tO #[]) ::
 (nat_lit 183,tO #[vS "items" 692,vS "signs" 693,vS "places" 694,vS "text" 695,vS "some" 696,vS "barred" 697]) ::
 (nat_lit 184,tO #[]) ::
 (nat_lit 186,cO "_law_meant" 689 "_law_meant" 690 691 184 2 181 182 (.ref 183) (.ref 184) 185 698 184 699) ::
 (nat_lit 187,fO (stM 39) "_law_meant" "law_in0180_01" 648 186) ::
 (nat_lit 188,tO #[]) ::
 (nat_lit 191,cO "_law_taken" 701 "_law_taken" 702 703 190 2 188 189 (.none) (.none) 190 704 190 705) ::
 (nat_lit 192,fO (stM 40) "_law_taken" "law_in0180_01" 648 191) ::
 (nat_lit 193,tO #[]) ::
 (nat_lit 196,cO "_law_laid" 707 "_law_laid" 708 709 203 3 193 194 (.none) (.none) 195 710 203 711) ::
 (nat_lit 197,fO (stM 41) "_law_laid" "law_in0180_01" 648 196) ::
 (nat_lit 198,tO #[]) ::
 (nat_lit 201,cO "law" 713 "law" 714 715 210 1 198 199 (.none) (.none) 200 716 210 717) ::
 (nat_lit 202,fO (stM 42) "law" "law_in0180_01" 648 201)::[]
noncomputable abbrev cA (d u:Nat) (outer:List Env):Around:={handled:=none,depth:=d,frames:=some outer,guards:=none,units:=u}
theorem bF1 {A:Around} {d u:Nat} {outer:List Env} {c:Code} {M:Model} {R:Result→Shared→Prop} {s:Shared}
  (h:codeAny M (cA d u outer) c R s) (h1:A.handled=none) (h2:A.depth≤d) (h3:A.frames=some outer) (h4:A.units≤u):codeAny M A c R s:=by
 intro Γ p hc hΓ;refine h Γ p hc ⟨hΓ.1.trans h1,le_trans hΓ.2.1 h2,fun l hl=>hΓ.2.2.1 l (by refine rwg (h3 ..) ?_;exact hl),(fun g hg=>nomatch hg),le_trans hΓ.2.2.2.2 h4⟩
theorem bY7 {prog:Program} {w:World} {K:Frag} {p:Program} {loose:List Str} {mean:ExcName→Option Value} {mg mb:Str→Option Value} {A:Around} {s:Shared} {R:Result→Shared→Prop}
  {name qual:Str} {params:Arguments} {body:List Stmt} {scope:Scope} {dV kV doc pm cdv ct oc:Value} {an od:Option Addr} {osl:Array (Option Value)} {f:Addr} {args:Args} {binds:List (Str × Value)}
  (X:K.In s.heap) (T:Top p loose mean mg mb s.heap)
  (ho:K.lookup f=some ⟨oc,od,.func (fnOf name qual params body scope dV kV doc pm an cdv ct),osl⟩) (hcd:codeIn K cdv qual=true) (hroom:A.depth < recursionLimit)
  (hbind:BindsTo s (fnOf name qual params body scope dV kV doc pm an cdv ct) args binds) (hloc:∀ y∈binds,scope.names.lookup y.1=some .local)
  (h:∀ L' h₁,Fr s.heap L' h₁ (fun y=>binds.reverse.lookup y)→News s.heap L' h₁ [] →
   wpAny (model prog w) (A.deeper (envOf qual scope L' f cdv)) (execs body (envOf qual scope L' f cdv))
    (fun fl s'=>R (.ok (.ret (match fl with | .ret v=>v | _=>.none))) s')
    (fun u_ u_=>False)
    {s with heap:=h₁,toks:=s.toks + binds.length})
  (hco:scope.isCoroutine=false) (hgen:scope.isGenerator=false) (hk:scope.kind=.function)
  (hcell:∀ x∈scope.names,x.2≠.cell):codeAny (model prog w) A (.call (.ref f) args) R s:=by
 refine codeAny_call_def (fd:=fnOf name qual params body scope dV kV doc pm an cdv ct) (body:=body) (binds:=binds) hroom (X _ _ ho) rfl T.nolimit (codeRec_of X hcd) rfl hbind hcell hloc (fun h₁ hns hk₁=>?_) hco hgen hk;exact wpAny_mono (h _ h₁ ⟨hns,hk₁,le_refl _⟩ (fun u_ hp=>nomatch hp)) (fun u_ u_ x=>x) (fun u_ u_ x=>x.elim)
theorem cQ9 {prog:Program} {w:World} {K:Frag} {p:Program} {loose:List Str} {mean:ExcName→Option Value} {mg mb:Str→Option Value} {A:Around} {s:Shared} {R:Result→Shared→Prop}
  {name qual:Str} {params:Arguments} {body:List Stmt} {scope:Scope} {dV kV doc pm cdv ct oc:Value} {an od:Option Addr} {osl:Array (Option Value)} {f:Addr} {args:Args} {binds:List (Str × Value)}
  (X:K.In s.heap) (T:Top p loose mean mg mb s.heap)
  (ho:K.lookup f=some ⟨oc,od,.func (fnOf name qual params body scope dV kV doc pm an cdv ct),osl⟩) (hcd:codeIn K cdv qual=true) (hroom:A.depth < recursionLimit)
  (hbind:BindsTo s (fnOf name qual params body scope dV kV doc pm an cdv ct) args binds) (hkind:(binds.all fun y=>scope.names.lookup y.1==some .local || scope.names.lookup y.1==some .cell)=true)
  (hnd:((cellsFrom 0 scope.names []).map (·.1)).Nodup)
  (h:∀ L' h₁ tk cells,Fr s.heap L' h₁ (bindL (envOfC qual scope L' f cdv).kindOf binds fun u_=>none)→News s.heap L' h₁ cells →
   CellsAre (bindC (envOfC qual scope L' f cdv).kindOf binds fun u_=>none) (cellsFrom (L' + 1) scope.names []) cells →
   wpAny (model prog w) (A.deeper (envOfC qual scope L' f cdv)) (execs body (envOfC qual scope L' f cdv))
    (fun fl s'=>R (.ok (.ret (match fl with | .ret v=>v | _=>.none))) s')
    (fun u_ u_=>False)
    {s with heap:=h₁,toks:=tk})
  (hco:scope.isCoroutine=false) (hgen:scope.isGenerator=false) (hk:scope.kind=.function):codeAny (model prog w) A (.call (.ref f) args) R s:=by
 refine codeAny_call_function hroom (X _ _ ho) rfl hco hgen rfl (codeRec_of X hcd) (hbind _ _ _ _ ?_);refine wpAny_newFunctionEnv_cells hk (kindsX hkind _) fun env' he s' x=>?_;subst he;refine ⟨T.nolimit.keeps x.toInCall.keep,codeAny_func ?_⟩;refine hide fun G_ k_=>?_;(refine aG9 (x.done) ?_;intro h₁ tk eo0 _;subst eo0)
 have hk₁:=x.toInCall.keep;(refine aA3 (Cl.news (h₀:=s.heap) (le_refl _) fun n c hm=>⟨x.cell n c (lookup_of_mem_nodup (cellsFrom_names scope.names 0 (s.heap.objs.size + 1) [] [] rfl▸hnd) hm),x.above n c hm⟩) ?_;intro cells NC Y)
 refine k_ ?_;exact wpAny_mono (h s.heap.objs.size h₁ tk cells ⟨x.toInCall.ns,hk₁,le_refl _⟩ NC Y) (fun u_ u_ x=>x) (fun u_ u_ x=>x.elim)
section
variable {h₀:Heap} {L I:Addr} {oI:Obj} {Jn:(Str→Option Value)→List (Addr × Obj)→Prop} {s₁:Shared} {Q:Flow→Shared→Prop}
end
section
variable {prog:Program} {w:World} {A:Around} {s:Shared} {env:Env} {h₀:Heap} {L:Addr} {m:Str→Option Value} {news:List (Addr × Obj)} {Q:Flow→Shared→Prop}
end
open LCg LCt in
section
open LCg LCt
variable {prog:Program} {w:World} {A:Around} {h₀:Heap} {L:Addr} {m:Str→Option Value} {env:Env} {ct elt:Expr} {x:Str} {scope:Scope} {cl:List (Str × Addr)} {s:Shared} {S:List (Addr × Obj)→Prop} {P:Nat→Value→Prop} {Fin:List Value→List (Addr × Obj)→Prop}
end
theorem cT6 {h₀ h:Heap} {L:Addr} {m:Str→Option Value} {x:Str} {v:Value} (F:Fr h₀ L h m) (e:m x=some v):Fr h₀ L h (fun y=>if y=x then some v else m y):=by
 have:(fun y=>if y=x then some v else m y)=m:=by
  funext y
  by_cases hy:y=x
  ·(refine rwg (if_pos hy ..) ?_;refine rwg (hy ..) ?_;refine rwg (e ..) ?_;rfl)
  ·(refine rwg (if_neg hy ..) ?_;rfl)
 refine rwg (this ..) ?_;exact F
theorem bN4 {prog:Program} {w:World} {A:Around} {E:Value→Shared→Prop} {s:Shared} {h₀:Heap} {L:Addr} {m:Str→Option Value} {r:Addr} {a b:Int} {t u v:Tok} {news:List (Addr × Obj)} {Q:Value→Shared→Prop}
  (hh:A.handled=none) (F:Fr h₀ L s.heap m) (N:News h₀ L s.heap news) (hr:IsRange s.heap r a b 1 t u v) (hsm:Builtin.Range.small a b 1=true) (hlen:(b - a).toNat≤2 ^ 24)
  (hQ:∀ h' tk D ys n,Fr h₀ L h' m→News h₀ L h' ((D,({cls:=.type "list",data:=.seq (toArray ys) n}:Obj))::news)→IntsAre ys (rangeInts a 1 (b - a).toNat)→(∀ p∈news,p.1 < D)→Q (.ref D) {s with heap:=h',toks:=tk}) :
  wpAny (model prog w) A (call (.type "list") [.ref r]) Q E s:=by
 refine list_rangeD hh F N hr hsm (rangeSize_nat a b) hlen fun h' tk ys F' N' hk hD hl hp hc=>?_;(refine aE8 hp ?_;clear hp;intro no0 ho;obtain ⟨n,e⟩:=no0)
 refine hQ h' tk s.heap.objs.size ys n F' (fun p hp=>?_) (IntsAre.ofCarried hc) (fun p hp=>Heap.lt_size (N p hp).1);rcases mem_cons.mp hp with rfl | hp
 ·exact ⟨e,ne_of_gt F.ns.lt,hD⟩
 ·exact N' p hp
theorem bB9 {a b:Int} (ha:0≤a) (ha':a≤1000000) (hb:0≤b) (hb':b≤1000000):Builtin.Range.small a b 1=true:=by
 unfold Builtin.Range.small Builtin.Range.rangeFitsLong;refine rwg (rangeSize_nat ..) ?_;simp only [Bool.and_eq_true,decide_eq_true_eq,Bool.or_eq_true]
 refine ⟨⟨⟨⟨?_,?_⟩,?_⟩,?_⟩,.inr ?_⟩<;>first | omega | (simp;omega) | (simp;done)
theorem cM3 {h₀ h h':Heap} {L:Addr} {m:Str→Option Value} {news:List (Addr × Obj)} {D:Addr} {o:Obj} (F:Fr h₀ L h m) (N:News h₀ L h news) (hk:∀ b o,h.get? b=some o→h'.get? b=some o) (hD:h'.get? D=some o) (hn:h.get? D=none) :
  Fr h₀ L h' m∧News h₀ L h' ((D,o)::news)∧∀ p∈news,p.1≠D:=by
 refine ⟨F.keeps hk,fun p hp=>?_,fun p hp e=>?_⟩
 ·rcases mem_cons.mp hp with rfl | hp
  ·refine ⟨hD,fun e=>?_,?_⟩
   ·(refine aP4 (F.ns) ?_;intro oL _ _ hL _)
    have e:D=L:=e;(replace hn:=(e ..)▸hn;replace hn:=(hL ..)▸hn);cases hn
   ·cases q:h₀.get? D with
    | none=>rfl
    | some o'=>replace hn:=(F.keep _ _ q ..)▸hn;cases hn
  ·exact ⟨hk _ _ (N p hp).1,(N p hp).2⟩
 ·have:=(N p hp).1;(replace this:=(e ..)▸this;replace this:=(hn ..)▸this);cases this
theorem kept {h₀ h h':Heap} {L:Addr} {m:Str→Option Value} {news:List (Addr × Obj)} (F:Fr h₀ L h m) (N:News h₀ L h news) (hk:∀ b o,h.get? b=some o→h'.get? b=some o) :
  Fr h₀ L h' m∧News h₀ L h' news:=⟨F.keeps hk,fun p hp=>⟨hk _ _ (N p hp).1,(N p hp).2⟩⟩
theorem cB1 {P:Prop} {h₀ h:Heap} {L D:Addr} {A:Array Value} {n:Nat} {rest:List (Addr × Obj)} (_N:News h₀ L h ((D,W.listOf A n)::rest))
  (k:∀ (D':Addr) (A':Array Value) (n':Nat) (rest':List (Addr × Obj)),D'=D→A'=A→n'=n→rest'=rest→P):P:=k D A n rest rfl rfl rfl rfl
noncomputable def aB1:List Str→Str
 | []=>ofString ""
 | a::r=>a++aB1 r
theorem aQ0 (a:Str):ofString ""++a=a:=by
 have h:ofString ""=⟨#[]⟩:=by decide +kernel
 refine rwg (h ..) ?_;apply Str.ext';refine rwg (Str.cps_append ..) ?_;simp
theorem ofString_nil:ofString ""=Str.empty:=by decide +kernel
theorem aL0:∀ ss:List Str,Txt.join (ofString "") ss=aB1 ss:=by
 intro ss;refine (StrLaws.glued_eq_join _ ss).trans ?_;have key:∀ (r:List Str) (a:Str),Str.join (ofString "") (a::r)=a++aB1 r:=by
  intro r
  induction r with
  | nil=>intro a;refine (?_:a=a++ofString "");rw [ofString_nil,Str.append_empty]
  | cons b r ih =>
   intro a;refine (?_:a++ofString ""++Str.join (ofString "") (b::r)=_);rw [ih b,ofString_nil,Str.append_empty];rfl
 cases ss with
 | nil=>exact ofString_nil.symm
 | cons a r=>exact key r a
theorem aH4:∀ ss:List Str,(aB1 ss).length=(ss.map (·.length)).sum
 | []=>by decide +kernel
 | a::r=>by rw [aB1,Str.length_append,aH4 r,map_cons,List.sum_cons]
section
open PySem.W.X
theorem xend {prog:Program} {w:World} {A:Around} {E:Value→Shared→Prop} {P:Value→List (Addr × Obj)→Nat→Prop} {h0 h:Heap} {g:Array GenState} {d:Drawn} {t:Nat} {os:OsState} {v:Value} {nw:List (Addr × Obj)} (D:Mem h0 h [] nw) (p:P v nw t) :
  wpAny (model prog w) A (Sem.pure v) (fun v s'=>∃ h' t' nw,s'=⟨h',g,d,t',os⟩∧Mem h0 h' [] nw∧P v nw t') E ⟨h,g,d,t,os⟩:=x_pure ⟨_,_,_,rfl,D,p⟩
theorem xrun {prog:Program} {w:World} {A:Around} {E:Value→Shared→Prop} {Q:Value→Shared→Prop} {P:Value→List (Addr × Obj)→Nat→Prop} {s:Shared} {c:Sem Value}
  (h:wpAny (model prog w) A c (fun v s'=>∃ h' t' nw,s'=⟨h',s.gens,s.drawn,t',s.os⟩∧Mem s.heap h' [] nw∧P v nw t') (fun u_ u_=>False) s) (k:∀ v h' t' nw,Mem s.heap h' [] nw→P v nw t'→Q v {s with heap:=h',toks:=t'}):wpAny (model prog w) A c Q E s :=
 wpAny_mono h (fun _ _ ⟨_,_,_,e,D,p⟩=>e▸k _ _ _ _ D p) fun u_ u_ z=>z.elim
end
local macro_rules | `(tactic| x_close)=>`(tactic| exact Mine.xend (by assumption) ⟨_,rfl,rfl⟩)
inductive AV | none | bool (x:Bool) | int (k:Int) | str (x:Str) | obj (n:Nat) | par (n:Nat) | val (x:Value) | fz (a:Addr)
noncomputable def AV.Is (β ρ:List Addr):AV→Value→Prop
 | .none,y=>y=.none
 | .bool x,y=>y=.bool x
 | .int k,y=>∃ t,y=.int k t
 | .str x,y=>∃ t,y=.str x t
 | .obj n,y=>∃ a,ρ[n]?=some a∧y=.ref a
 | .par n,y=>∃ a,β[n]?=some a∧y=.ref a
 | .val x,y=>y=x
 | .fz a,y=>y=.ref a
inductive AllIs (β ρ:List Addr):List AV→List Value→Prop
 | nil:AllIs β ρ [] []
 | cons {a v as vs} (h:a.Is β ρ v) (t:AllIs β ρ as vs):AllIs β ρ (a::as) (v::vs)
inductive AO | list (xs:List AV) | tup (xs:List AV) | cell (a:Option AV) | rng (a b c:Int) | raw (x:Obj) | bm (r:AV) | ints (ns:List Int)
noncomputable abbrev bH4 (l:Addr):Obj:=⟨.type "builtin_function_or_method",Option.none,.fields #[.builtin "list.append",.ref l],#[]⟩
noncomputable def AO.Is (β ρ:List Addr):AO→Obj→Prop
 | .list xs,o=>∃ vs n,o=W.listOf (toArray vs) n∧AllIs β ρ xs vs
 | .tup xs,o=>o.cls=.type "tuple"∧∃ vs n,o.data=.seq (toArray vs) n∧AllIs β ρ xs vs
 | .cell a,o=>∃ v,o.data=.cell v∧∀ a',a=some a'→∃ v',v=some v'∧a'.Is β ρ v'
 | .rng a b c,o=>∃ t u v,o={cls:=.type "range",dict:=Option.none,data:=.fields #[.int a t,.int b u,.int c v],slots:=#[]}
 | .raw x,o=>o=x
 | .bm r,o=>∃ l,o=bH4 l∧r.Is β ρ (.ref l)
 | .ints ns,o=>o.cls=.type "list"∧∃ vs n,o.data=.seq (toArray vs) n∧IntsAre vs ns
structure Wd where
 v:List Value
 fz:Addr→Option AO
structure St where
 loc:List (Str × AV)
 obj:List AO
 wd:Wd
noncomputable def cS7:List (Str × AV)→Str→AV→List (Str × AV)
 | [],x,a=>[(x,a)]
 | (y,c)::r,x,a=>match y==x with
  | true=>(y,a)::r
  | false=>(y,c)::cS7 r x a
noncomputable def St.put (σ:St) (x:Str) (a:AV):St:=⟨cS7 σ.loc x a,σ.obj,σ.wd⟩
noncomputable def St.mk' (σ:St) (o:AO):St:=⟨σ.loc,σ.obj++[o],σ.wd⟩
noncomputable def St.set (σ:St) (k:Nat) (o:AO):St:=⟨σ.loc,σ.obj.set k o,σ.wd⟩
noncomputable def putC:List (Str × AV)→Str→AV→(List (Str × AV)→Prop)→Prop
 | [],x,a,K=>K [(x,a)]
 | (y,c)::r,x,a,K=>match y==x with
  | true=>K ((y,a)::r)
  | false=>putC r x a fun r'=>K ((y,c)::r')
noncomputable def setC:List AO→Nat→AO→(List AO→Prop)→Prop
 | [],_,_,K=>K []
 | _::r,0,o,K=>K (o::r)
 | a::r,k + 1,o,K=>setC r k o fun r'=>K (a::r')
noncomputable def mkC:List AO→AO→Nat→(Nat→List AO→Prop)→Prop
 | [],o,n,K=>K n [o]
 | a::r,o,n,K=>mkC r o (n + 1) fun k l=>K k (a::l)
noncomputable def St.putK:St→Str→AV→(St→Prop)→Prop
 | ⟨l,o,w⟩,x,a,K=>putC l x a fun l'=>K ⟨l',o,w⟩
noncomputable def St.setK:St→Nat→AO→(St→Prop)→Prop
 | ⟨l,o,w⟩,k,ao,K=>setC o k ao fun o'=>K ⟨l,o',w⟩
noncomputable def St.mkK:St→AO→(Nat→St→Prop)→Prop
 | ⟨l,o,w⟩,ao,K=>mkC o ao 0 fun k o'=>K k ⟨l,o',w⟩
theorem cB {x:Str} {a:AV}:∀ {l:List (Str × AV)} {K:List (Str × AV)→Prop},putC l x a K→K (cS7 l x a)
 | [],K,h=>h
 | (y,c)::r,K,h=>by
  unfold putC at h;unfold cS7;cases e:y==x with
  | true=>rw [e] at h;exact h
  | false=>rw [e] at h;exact cB h
theorem cC5 {o:AO}:∀ {l:List AO} {k:Nat} {K:List AO→Prop},setC l k o K→K (l.set k o)
 | [],_,K,h=>h
 | _::_,0,K,h=>h
 | _::r,k + 1,K,h=>cC5 (l:=r) h
theorem cR2 {o:AO}:∀ {l:List AO} {n:Nat} {K:Nat→List AO→Prop},mkC l o n K→K (n + l.length) (l++[o])
 | [],n,K,h=>h
 | a::r,n,K,h=>by
  have:=cR2 (l:=r) h;(refine rwg (length_cons ..) ?_;refine rwg (show n + (r.length + 1)=n + 1 + r.length by lia) ?_)
  exact this
theorem cJ6 {σ:St} {x:Str} {a:AV} {K:St→Prop} (h:σ.putK x a K):K (σ.put x a):=by cases σ;exact cB h
theorem aV4 {σ:St} {k:Nat} {o:AO} {K:St→Prop} (h:σ.setK k o K):K (σ.set k o):=by cases σ;exact cC5 h
theorem aJ {σ:St} {o:AO} {K:Nat→St→Prop} (h:σ.mkK o K):K σ.obj.length (σ.mk' o):=by
 cases σ
 have:=cR2 h;rwa [zero_add] at this
inductive Fl | next | brk | cont | ret (a:AV)
structure Gx where
 cs:Scope
 ce:List (Str × Nat)
 glob:Str→Option Value
 base:List AO
 tab:Addr→Option AO
 call:Value→List AV→St→(AV→St→Prop)→Prop
 fn:Value→Bool
 meth:Str→Option String
 vmeth:Wd→Addr→Str→Option Addr
 W:Wd→List (Addr × Obj)→Prop
 isx:Expr→Bool
 exe:Expr→St→(AV→St→Prop)→Prop
 exo:Stmt→St→(Fl→St→Prop)→Prop
noncomputable def aB4 {α:Type} (o:Option α) (f:α→Prop):Prop:=match o with
 | some a=>f a
 | Option.none=>False
noncomputable def aI6 {α:Type} (o:Option α) (f:α→Prop) (g:Prop):Prop:=match o with
 | some a=>f a
 | Option.none=>g
noncomputable def cQ4 {α β:Type} (o:Option (α × β)) (f:α→β→Prop):Prop:=match o with
 | some (a,b)=>f a b
 | Option.none=>False
noncomputable def aG8 (b:Bool) (P:Prop):Prop:=match b with
 | true=>P
 | false=>False
noncomputable def sel (b:Bool) (X Y:Prop):Prop:=match b with
 | true=>X
 | false=>Y
noncomputable def aS8 (c:AV) (X Y:Prop):Prop:=match c with
 | .bool c=>sel c X Y
 | _=>False
theorem aH1 {α:Type} {o:Option α} {f:α→Prop} (h:aB4 o f):∃ a,o=some a∧f a:=by
 cases o with
 | some a=>exact (aA0 (a) (rfl) (h))
 | none=>exact h.elim
theorem aA {α:Type} {o:Option α} {f:α→Prop} {C:Prop} (h:aB4 o f) (k:∀ a,o=some a→f a→C):C:=(aH1 h).elim fun a h=>k a h.1 h.2
theorem aU8 {α β:Type} {o:Option (α × β)} {f:α→β→Prop} (h:cQ4 o f):∃ p,o=some p∧f p.1 p.2:=by
 cases o with
 | some a=>exact (aA0 (a) (rfl) (h))
 | none=>exact h.elim
theorem aW0 {α:Type} {o:Option α} {f:α→Prop} {g:Prop} (h:aI6 o f g):(∃ a,o=some a∧f a)∨(o=Option.none∧g):=by
 cases o with
 | some a=>exact .inl (aA0 (a) (rfl) (h))
 | none=>exact .inr ⟨rfl,h⟩
theorem aL2 {b:Bool} {P:Prop} (h:aG8 b P):b=true∧P:=by
 cases b with
 | true=>exact ⟨rfl,h⟩
 | false=>exact h.elim
theorem aB5 {b:Bool} {P C:Prop} (h:aG8 b P) (k:b=true→P→C):C:=k (aL2 h).1 (aL2 h).2
theorem cS9 {b:Bool} {X Y:Prop} (h:sel b X Y):if b=true then X else Y:=by
 cases b<;>exact h
theorem aB7 {α:Type} {o:Option α} {f:α→Prop} {g C:Prop} (h:aI6 o f g) (k1:∀ a,o=some a→f a→C) (k2:o=none→g→C):C:=(aW0 h).elim (fun ⟨a,e,x⟩=>k1 a e x) fun x=>k2 x.1 x.2
theorem aH6 {b:Bool} {X Y C:Prop} (h:sel b X Y) (k1:b=true→X→C) (k2:¬b=true→Y→C):C:=by
 cases b with
 | true=>exact k1 rfl h
 | false=>exact k2 Bool.false_ne_true h
theorem aF3 {c:Bool} {X Y:Prop} (h:aS8 (.bool c) X Y):if c=true then X else Y:=cS9 h
theorem aA8 {c:Bool} {X Y:Prop}:(c=true→X)→(c=false→Y)→(match c with | true=>X | false=>Y):=fun h1 h2=>by
 cases c with
 | true=>exact h1 rfl
 | false=>exact h2 rfl
noncomputable def vint?:Value→Option Int
 | .int k _=>some k
 | _=>Option.none
noncomputable def vstr?:Value→Option Str
 | .str k _=>some k
 | _=>Option.none
noncomputable def AV.int?:AV→Option Int
 | .int k=>some k
 | .val x=>vint? x
 | _=>Option.none
noncomputable def AV.str?:AV→Option Str
 | .str k=>some k
 | .val x=>vstr? x
 | _=>Option.none
noncomputable def AV.bool?:AV→Option Bool
 | .bool k=>some k
 | _=>Option.none
noncomputable def bO2 (G:Gx) (σ:St):AV→Option AO
 | .obj n=>σ.obj[n]?
 | .par n=>G.base[n]?
 | .val v=>match v with
  | .ref a=>G.tab a
  | _=>Option.none
 | .fz a=>σ.wd.fz a
 | _=>Option.none
noncomputable def AO.list?:AO→Option (List AV)
 | .list xs=>some xs
 | .ints ns=>some (ns.map .int)
 | _=>Option.none
noncomputable def AO.own?:AO→Option (List AV)
 | .list xs=>some xs
 | _=>Option.none
noncomputable def AO.tup?:AO→Option (List AV)
 | .tup xs=>some xs
 | _=>Option.none
noncomputable def AO.rng?:AO→Option (Int × Int × Int)
 | .rng a b c=>some (a,b,c)
 | _=>Option.none
noncomputable def AO.cell?:AO→Option AV
 | .cell a=>a
 | _=>Option.none
noncomputable def aB (G:Gx) (σ:St) (a:AV):Option (List AV):=(bO2 G σ a).bind AO.list?
noncomputable def aW (G:Gx) (σ:St) (a:AV):Option (List AV):=(bO2 G σ a).bind AO.tup?
noncomputable def aD6 {α:Type} (f:AV→Option α):List AV→Option (List α)
 | []=>some []
 | a::r=>(f a).bind fun x=>(aD6 f r).map (x::·)
noncomputable def tru (G:Gx) (σ:St) (a:AV) (K:Bool→Prop):Prop :=
 aI6 a.bool? K <| aI6 a.str? (fun x=>x.length≤16777216∧K ((x.length:Int) != 0)) <| aB4 (aB G σ a) fun xs=>xs.length≤16777216∧K (!xs.isEmpty)
noncomputable def ibin (op:Operator) (i j:Int) (K:Int→Prop):Prop:=match op with
 | .Add=>K (i + j)
 | .Sub=>K (i - j)
 | .Mod=>j≠0∧K (i.fmod j)
 | .FloorDiv=>(j≠0∧Builtin.divisionGoesByPylong i j=false)∧K (i.fdiv j)
 | .BitAnd=>K (Builtin.bitAnd i j)
 | .Pow=>(0≤j∧j≤1000000∧i.natAbs < 2 ^ 64)∧K (i ^ j.toNat)
 | _=>False
noncomputable def isAdd:Operator→Bool
 | .Add=>true
 | _=>false
noncomputable def bin (G:Gx) (op:Operator) (x y:AV) (σ:St) (K:AV→St→Prop):Prop :=
 aI6 x.int? (fun i=>aB4 y.int? fun j=>ibin op i j fun k=>K (.int k) σ) <| aG8 (isAdd op) <|
 aI6 x.str? (fun a=>aB4 y.str? fun b=>a.length + b.length≤sizeLine∧K (.str (a++b)) σ) <|
 aB4 (aB G σ x) fun as=>aB4 (aB G σ y) fun bs=>as.length + bs.length≤sizeLine∧σ.mkK (.list (as++bs)) fun k=>K (.obj k)
noncomputable def icmp (op:CmpOp) (i j:Int):Option Bool:=match op with
 | .Eq=>some (i==j)
 | .NotEq=>some (i != j)
 | .Lt=>some (decide (i < j))
 | .LtE=>some (decide (i≤j))
 | .Gt=>some (decide (j < i))
 | .GtE=>some (decide (j≤i))
 | _=>Option.none
noncomputable def scmp (op:CmpOp) (a b:Str):Option Bool:=match op with
 | .Eq=>some (a==b)
 | .NotEq=>some (a != b)
 | .In=>some (Txt.contains b a)
 | .NotIn=>some (!Txt.contains b a)
 | .Gt=>some (decide (b.cps.toList < a.cps.toList))
 | _=>Option.none
noncomputable def inOp:CmpOp→Option Bool
 | .In=>some true
 | .NotIn=>some false
 | _=>Option.none
noncomputable def isOp:CmpOp→Option Bool
 | .Is=>some true
 | .IsNot=>some false
 | _=>Option.none
noncomputable def eqOp:CmpOp→Option Bool
 | .Eq=>some true
 | .NotEq=>some false
 | _=>Option.none
noncomputable def optE' {α β:Type} (o:Option α) (f:α→Option β) (g:Option β):Option β:=match o with
 | some a=>f a
 | Option.none=>g
noncomputable def AV.ref2:AV→Option (Bool × Nat)
 | .obj i=>some (true,i)
 | .par i=>some (false,i)
 | _=>Option.none
noncomputable def cY1 (x y:AV):Option Bool:=optE' x.ref2 (fun p=>optE' y.ref2 (fun q=>match p.1==q.1 && p.2==q.2 with
 | true=>some true
 | false=>Option.none) (y.str?.map fun u_=>false)) (y.ref2.bind fun u_=>x.str?.map fun u_=>false)
inductive Tr | b (x:Bool) | s (x:Str) | l (ts:List Tr)
noncomputable def aS1 (G:Gx) (σ:St):Nat→AV→Option Tr
 | 0,_=>Option.none
 | n + 1,a=>match a.bool? with
  | some x=>some (.b x)
  | Option.none=>match a.str? with
   | some x=>some (.s x)
   | Option.none=>(aB G σ a).bind fun xs=>(aD6 (aS1 G σ n) xs).map .l
noncomputable def lcmp (G:Gx) (σ:St) (op:CmpOp) (x y:AV) (K:Bool→Prop):Prop :=
 aI6 (isOp op) (fun c=>aB4 (cY1 x y) fun d=>K (d==c)) <| aB4 (eqOp op) fun c=>aI6 x.bool? (fun a=>aB4 y.bool? fun b=>K ((a==b)==c)) <| aB4 (aB G σ x) fun as=>aB4 (aB G σ y) fun bs =>
  aI6 (aD6 AV.int? as) (fun ns=>aB4 (aD6 AV.int? bs) fun ms=>K (decide (ns=ms)==c)) <| sel (bs.isEmpty && c) (K as.isEmpty) (aG8 c (∃ t,aS1 G σ 4 x=some t∧aS1 G σ 4 y=some t∧K true))
noncomputable def cmp (G:Gx) (σ:St) (op:CmpOp) (x y:AV) (K:Bool→Prop):Prop :=
 aI6 x.int? (fun i=>aI6 y.int? (fun j=>aB4 (icmp op i j) K) <| aB4 (inOp op) fun c=>aB4 (aB G σ y) fun ys=>aB4 (aD6 AV.int? ys) fun ns=>K ((ns.any (·==i))==c)) <|
 aI6 x.str? (fun a=>aI6 y.str? (fun b=>aB4 (scmp op a b) K) <| aI6 (inOp op) (fun c=>aI6 (aB G σ y) (fun ys=>aB4 (aD6 AV.str? ys) fun ns=>K ((ns.any (·==a))==c)) <|
  aB4 (aW G σ y) fun ys=>aB4 (aD6 AV.str? ys) fun ns=>K ((ns.any (·==a))==c)) (lcmp G σ op x y K)) <| lcmp G σ op x y K
noncomputable def item (G:Gx) (x y:AV) (σ:St) (K:AV→Prop):Prop:=aB4 y.int? fun k =>
 aI6 x.str? (fun a=>(-(a.length:Int)≤k∧k < a.length∧a.length≤16777216)∧K (.str (Txt.item a k))) <|
 aB4 (aB G σ x) fun xs=>(-(xs.length:Int)≤k∧k < xs.length∧xs.length≤16777216)∧aB4 xs[(if k < 0 then k + xs.length else k).toNat]? K
structure Lk (P:Prop):Prop where
 h:P
@[irreducible] noncomputable def evs (f:Expr→St→(AV→St→Prop)→Prop):List Expr→St→(List AV→St→Prop)→Prop
 | [],σ,K=>Lk (K [] σ)
 | e::r,σ,K=>Lk (f e σ fun a σ1=>evs f r σ1 fun as σ2=>K (a::as) σ2)
theorem evs_0 {f:Expr→St→(AV→St→Prop)→Prop} {σ:St} {K:List AV→St→Prop}:evs f [] σ K=K [] σ:=propext ⟨by with_unfolding_all exact fun h=>Lk.h h,by with_unfolding_all exact fun h=>Lk.mk h⟩
theorem aU6 {f:Expr→St→(AV→St→Prop)→Prop} {e:Expr} {r:List Expr} {σ:St} {K:List AV→St→Prop}:evs f (e::r) σ K=f e σ fun a σ1=>evs f r σ1 fun as σ2=>K (a::as) σ2:=propext ⟨by with_unfolding_all exact fun h=>Lk.h h,by with_unfolding_all exact fun h=>Lk.mk h⟩
theorem aH {f:Expr→St→(AV→St→Prop)→Prop} {σ:St} {K:List AV→St→Prop} (h:K [] σ):evs f [] σ K:=evs_0▸h
theorem aZ0 {f:Expr→St→(AV→St→Prop)→Prop} {e:Expr} {r:List Expr} {σ:St} {K:List AV→St→Prop} (h:f e σ fun a σ1=>evs f r σ1 fun as σ2=>K (a::as) σ2):evs f (e::r) σ K:=aU6▸h
noncomputable def bH0 {T α:Type} (c:T→Nat) (k:Nat) (E:(t:T)→c t=k→Option α) (e:T):Option α:=if h:c e=k then E e h else Option.none
theorem aH2 {T α:Type} {c:T→Nat} {k:Nat} {E:(t:T)→c t=k→Option α} {e:T} {a:α} (h:bH0 c k E e=some a):∃ hk:c e=k,E e hk=some a:=by
 unfold bH0 at h;by_cases hk:c e=k
 ·replace h:=(dif_pos hk ..)▸h;exact ⟨hk,h⟩
 ·replace h:=(dif_neg hk ..)▸h;cases h
noncomputable def cG7 {α:Type} (f:Str→Pos→Option α):Expr→Option α:=bH0 Expr.ctorIdx 23 fun t h=>Expr.Name.elim t h f
theorem bQ {α:Type} {f:Str→Pos→Option α} {e:Expr} {a:α} (h:cG7 f e=some a):∃ x p,e=.Name x p∧f x p=some a :=
 let ⟨hk,h⟩:=aH2 h
 Expr.Name.elim (motive_1:=fun z=>∀ hk,Expr.Name.elim z hk f=some a→∃ x p,z=.Name x p∧f x p=some a) e hk (fun x p u_ h=>⟨x,p,rfl,h⟩) hk h
noncomputable def cH1 {α:Type} (f:Const→Nat→Pos→Option α):Expr→Option α:=bH0 Expr.ctorIdx 19 fun t h=>Expr.Constant.elim t h f
theorem bZ4 {α:Type} {f:Const→Nat→Pos→Option α} {e:Expr} {a:α} (h:cH1 f e=some a):∃ c k p,e=.Constant c k p∧f c k p=some a :=
 let ⟨hk,h⟩:=aH2 h
 Expr.Constant.elim (motive_1:=fun z=>∀ hk,Expr.Constant.elim z hk f=some a→∃ c k p,z=.Constant c k p∧f c k p=some a) e hk (fun c k p u_ h=>⟨c,k,p,rfl,h⟩) hk h
noncomputable def oSub {α:Type} (f:Expr→Expr→Pos→Option α):Expr→Option α:=bH0 Expr.ctorIdx 21 fun t h=>Expr.Subscript.elim t h f
theorem cB3 {α:Type} {f:Expr→Expr→Pos→Option α} {e:Expr} {a:α} (h:oSub f e=some a):∃ o i p,e=.Subscript o i p∧f o i p=some a :=
 let ⟨hk,h⟩:=aH2 h
 Expr.Subscript.elim (motive_1:=fun z=>∀ hk,Expr.Subscript.elim z hk f=some a→∃ o i p,z=.Subscript o i p∧f o i p=some a) e hk (fun o i p u_ h=>⟨o,i,p,rfl,h⟩) hk h
noncomputable def bK8 {α:Type} (f:Expr→List Expr→List Keyword→Pos→Option α):Expr→Option α:=bH0 Expr.ctorIdx 16 fun t h=>Expr.Call.elim t h f
theorem bR9 {α:Type} {f:Expr→List Expr→List Keyword→Pos→Option α} {e:Expr} {a:α} (h:bK8 f e=some a):∃ g as ks p,e=.Call g as ks p∧f g as ks p=some a :=
 let ⟨hk,h⟩:=aH2 h
 Expr.Call.elim (motive_1:=fun z=>∀ hk,Expr.Call.elim z hk f=some a→∃ g as ks p,z=.Call g as ks p∧f g as ks p=some a) e hk (fun g as ks p u_ h=>⟨g,as,ks,p,rfl,h⟩) hk h
noncomputable def oAttr {α:Type} (f:Expr→Str→Pos→Option α):Expr→Option α:=bH0 Expr.ctorIdx 20 fun t h=>Expr.Attribute.elim t h f
theorem cK {α:Type} {f:Expr→Str→Pos→Option α} {e:Expr} {a:α} (h:oAttr f e=some a):∃ o nm p,e=.Attribute o nm p∧f o nm p=some a :=
 let ⟨hk,h⟩:=aH2 h
 Expr.Attribute.elim (motive_1:=fun z=>∀ hk,Expr.Attribute.elim z hk f=some a→∃ o nm p,z=.Attribute o nm p∧f o nm p=some a) e hk (fun o nm p u_ h=>⟨o,nm,p,rfl,h⟩) hk h
noncomputable def cS4 {α:Type} (f:Option Expr→Option Expr→Option Expr→Pos→Option α):Expr→Option α:=bH0 Expr.ctorIdx 26 fun t h=>Expr.Slice.elim t h f
theorem cE4 {α:Type} {f:Option Expr→Option Expr→Option Expr→Pos→Option α} {e:Expr} {a:α} (h:cS4 f e=some a):∃ lo up st p,e=.Slice lo up st p∧f lo up st p=some a :=
 let ⟨hk,h⟩:=aH2 h
 Expr.Slice.elim (motive_1:=fun z=>∀ hk,Expr.Slice.elim z hk f=some a→∃ lo up st p,z=.Slice lo up st p∧f lo up st p=some a) e hk (fun lo up st p u_ h=>⟨lo,up,st,p,rfl,h⟩) hk h
noncomputable def oTup {α:Type} (f:List Expr→Nat→Pos→Option α):Expr→Option α:=bH0 Expr.ctorIdx 25 fun t h=>Expr.Tuple.elim t h f
theorem cT4 {α:Type} {f:List Expr→Nat→Pos→Option α} {e:Expr} {a:α} (h:oTup f e=some a):∃ ts k p,e=.Tuple ts k p∧f ts k p=some a :=
 let ⟨hk,h⟩:=aH2 h
 Expr.Tuple.elim (motive_1:=fun z=>∀ hk,Expr.Tuple.elim z hk f=some a→∃ ts k p,z=.Tuple ts k p∧f ts k p=some a) e hk (fun ts k p u_ h=>⟨ts,k,p,rfl,h⟩) hk h
noncomputable def cG2 {α:Type} (f:Expr→List Comprehension→Scope→Pos→Option α):Expr→Option α:=bH0 Expr.ctorIdx 8 fun t h=>Expr.ListComp.elim t h f
theorem cL0 {α:Type} {f:Expr→List Comprehension→Scope→Pos→Option α} {e:Expr} {a:α} (h:cG2 f e=some a):∃ el gs sc p,e=.ListComp el gs sc p∧f el gs sc p=some a :=
 let ⟨hk,h⟩:=aH2 h
 Expr.ListComp.elim (motive_1:=fun z=>∀ hk,Expr.ListComp.elim z hk f=some a→∃ el gs sc p,z=.ListComp el gs sc p∧f el gs sc p=some a) e hk (fun el gs sc p u_ h=>⟨el,gs,sc,p,rfl,h⟩) hk h
noncomputable def oAsg {α:Type} (f:List Expr→Expr→Pos→Option α):Stmt→Option α:=bH0 Stmt.ctorIdx 5 fun t h=>Stmt.Assign.elim t h f
theorem dA5 {α:Type} {f:List Expr→Expr→Pos→Option α} {s:Stmt} {a:α} (h:oAsg f s=some a):∃ ts e p,s=.Assign ts e p∧f ts e p=some a :=
 let ⟨hk,h⟩:=aH2 h
 Stmt.Assign.elim (motive_2:=fun z=>∀ hk,Stmt.Assign.elim z hk f=some a→∃ ts e p,z=.Assign ts e p∧f ts e p=some a) s hk (fun ts e p u_ h=>⟨ts,e,p,rfl,h⟩) hk h
noncomputable def oIf {α:Type} (f:Expr→List Stmt→List Stmt→Pos→Option α):Stmt→Option α:=bH0 Stmt.ctorIdx 12 fun t h=>Stmt.If.elim t h f
theorem oIf_is {α:Type} {f:Expr→List Stmt→List Stmt→Pos→Option α} {e:Stmt} {a:α} (h:oIf f e=some a):∃ t b o p,e=.If t b o p∧f t b o p=some a :=
 let ⟨hk,h⟩:=aH2 h
 Stmt.If.elim (motive_2:=fun z=>∀ hk,Stmt.If.elim z hk f=some a→∃ t b o p,z=.If t b o p∧f t b o p=some a) e hk (fun t b o p u_ h=>⟨t,b,o,p,rfl,h⟩) hk h
noncomputable def oFor {α:Type} (f:Expr→Expr→List Stmt→List Stmt→Pos→Option α):Stmt→Option α:=bH0 Stmt.ctorIdx 9 fun t h=>Stmt.For.elim t h f
theorem cZ5 {α:Type} {f:Expr→Expr→List Stmt→List Stmt→Pos→Option α} {e:Stmt} {a:α} (h:oFor f e=some a):∃ t i b o p,e=.For t i b o p∧f t i b o p=some a :=
 let ⟨hk,h⟩:=aH2 h
 Stmt.For.elim (motive_2:=fun z=>∀ hk,Stmt.For.elim z hk f=some a→∃ t i b o p,z=.For t i b o p∧f t i b o p=some a) e hk (fun t i b o p u_ h=>⟨t,i,b,o,p,rfl,h⟩) hk h
noncomputable def oWhile {α:Type} (f:Expr→List Stmt→List Stmt→Pos→Option α):Stmt→Option α:=bH0 Stmt.ctorIdx 11 fun t h=>Stmt.While.elim t h f
noncomputable def aG5 (e:Expr):Bool:=!Nat.beq e.ctorIdx 22
noncomputable def aK0 (e:Expr):Bool:=Nat.beq e.ctorIdx 23
noncomputable def baseOk (e:Expr):Bool:=aK0 e || (Nat.beq e.ctorIdx 19 || (Nat.beq e.ctorIdx 21 || (bK8 (fun u_ as u_ u_=>some !as.isEmpty) e).getD false))
noncomputable def aO4 (o:Expr) (args:List Expr) (apos pos:Pos):Bool:=baseOk o && args.all aG5 && decide (args.length < 30) && (apos.endLine==pos.line)
noncomputable def aF {α:Type} (xs:List α) (lo hi:Option Int):List α :=
 (sliceRange (sliceBounds lo hi none xs.length).fst (sliceBounds lo hi none xs.length).snd.fst (sliceBounds lo hi none xs.length).snd.snd).filterMap fun i=>xs[i]?
noncomputable def cL6:AV→Option (Option Int)
 | .none=>some Option.none
 | a=>a.int?.map some
noncomputable def slc (G:Gx) (base:Expr) (x lo up:AV) (σ:St) (K:AV→St→Prop):Prop:=aB4 (cL6 lo) fun i=>aB4 (cL6 up) fun j =>
 aI6 x.str? (fun a=>a.length≤sizeLine∧K (.str (Txt.slice a i j)) σ) <|
 aB4 (aB G σ x) fun xs=>aG8 (aK0 base) <| xs.length≤sizeLine∧σ.mkK (.list (aF xs i j)) fun k=>K (.obj k)
noncomputable def evo (f:Expr→St→(AV→St→Prop)→Prop) (e:Option Expr) (σ:St) (K:AV→St→Prop):Prop:=aI6 e (fun e=>f e σ K) (K .none σ)
noncomputable def aS5 (σ:St):AV→Option (Nat × List AV)
 | .obj k=>(σ.obj[k]?.bind AO.own?).bind fun xs=>some (k,xs)
 | _=>Option.none
noncomputable def aY2 {α:Type}:List α→Option α
 | [a]=>some a
 | _=>Option.none
noncomputable def cK5 {α:Type}:List α→Option (α × α)
 | [a,b]=>some (a,b)
 | _=>Option.none
noncomputable def app (σ:St) (r:AV) (y:AV) (K:AV→St→Prop):Prop:=cQ4 (aS5 σ r) fun k xs=>xs.length≤sizeLine∧σ.setK k (.list (xs++[y])) (K .none)
noncomputable def bB3 (x:Str):Bool:=!(x==ofString "__debug__")
noncomputable def aJ7 (G:Gx) (x:Str):Bool:=G.cs.names.lookup x==some NameKind.local
noncomputable def cst?:Const→Option AV
 | .int k=>some (.int k)
 | .str x=>some (.str x)
 | .bool b=>some (.bool b)
 | .none=>some .none
 | _=>Option.none
noncomputable def bU5 (G:Gx) (σ:St) (x:Str):Option AV:=match bB3 x && aJ7 G x with
 | true=>σ.loc.lookup x
 | false=>Option.none
noncomputable def pv (G:Gx) (e:Expr) (σ:St):Option AV:=match e with
 | .Name x _=>bU5 G σ x
 | .Constant c _ _=>cst? c
 | _=>Option.none
noncomputable def cY4 (c:Bool) (x y:AV):Option AV:=match x.str? with
 | some a=>y.str?.map fun b=>.str (if c=true then a else b)
 | Option.none=>x.int?.bind fun a=>y.int?.map fun b=>.int (if c=true then a else b)
noncomputable def cD4 (G:Gx) (σ:St) (x:Str):Option AV:=(G.ce.lookup x).bind fun k=>σ.obj[k]?.bind AO.cell?
noncomputable def name (G:Gx) (σ:St) (x:Str) (K:AV→Prop):Prop:=aG8 (bB3 x) <| aB4 (G.cs.names.lookup x) fun k=>match k with
 | .local=>aB4 (σ.loc.lookup x) K
 | .cell=>aB4 (cD4 G σ x) K
 | .free=>aG8 (!(x==ofString "__classdict__")) <| aB4 (cD4 G σ x) K
 | .globalImplicit=>aB4 (G.glob x) fun v=>K (.val v)
 | _=>False
noncomputable def isNot:UnaryOp→Bool
 | .Not=>true
 | _=>false
noncomputable def isNeg:UnaryOp→Bool
 | .USub=>true
 | _=>false
noncomputable def isAnd:BoolOp→Bool
 | .And=>true
 | _=>false
noncomputable def unop (G:Gx) (op:UnaryOp) (x:AV) (σ:St) (K:AV→St→Prop):Prop :=
 sel (isNot op) (tru G σ x fun c=>K (.bool !c) σ) <| aG8 (isNeg op) <| aB4 x.int? fun k=>K (.int (-k)) σ
noncomputable def cC6:Expr→Option (Option Expr × Option Expr):=cS4 fun lo up st u_=>match st with
 | Option.none=>some (lo,up)
 | some _=>Option.none
noncomputable def aQ6 (e:Expr):Bool:=!Nat.beq e.ctorIdx 26
noncomputable def aY4:Expr→Option (Expr × Str × Pos):=oAttr fun o nm p=>some (o,nm,p)
noncomputable def aE7:Expr→Option Str:=cG7 fun x u_=>some x
noncomputable def valOf:AV→Option Value
 | .val v=>some v
 | _=>Option.none
noncomputable def aT8:List Str→Bool
 | []=>true
 | x::r=>!(r.any fun y=>x==y) && aT8 r
noncomputable def AO.isCell:AO→Bool
 | .cell _=>true
 | _=>false
noncomputable def AO.seq?:AO→Option (List AV)
 | .list xs=>some xs
 | .tup xs=>some xs
 | _=>Option.none
noncomputable def AO.bm?:AO→Option AV
 | .bm r=>some r
 | _=>Option.none
noncomputable def bR6 (σ:St) (k:Nat):Bool:=(σ.obj[k]?.map AO.isCell).getD false
noncomputable def bX7 (G:Gx) (σ:St) (a:AV):Option (List AV):=(bO2 G σ a).bind AO.seq?
noncomputable def cF3 (G:Gx) (σ:St) (a:AV):Option (Int × Int × Int):=(bO2 G σ a).bind AO.rng?
noncomputable def bG8:Expr→Option (List Expr):=oTup fun ts u_ u_=>some ts
noncomputable def bT3 (t:Expr):Option (List Str):=match aE7 t with
 | some x=>some [x]
 | Option.none=>(bG8 t).bind fun ts=>ts.mapM aE7
inductive Sq | l (xs:List AV) | r (a:Int) (n:Nat) | d (a:Int) (n:Nat)
noncomputable def Sq.len:Sq→Nat
 | .l xs=>xs.length
 | .r _ n=>n
 | .d _ n=>n
noncomputable def Sq.At (q:Sq) (i:Nat) (c:AV):Prop:=match q with
 | .l xs=>xs[i]?=some c
 | .r a n=>i < n∧c=.int (a + i)
 | .d a n=>i < n∧c=.int (a - i)
noncomputable def srcV (G:Gx) (σ:St) (a:AV) (K:Sq→(St→Prop)→Prop):Prop :=
 aI6 (aB G σ a) (fun xs=>xs.length≤sizeLine∧K (.l xs) fun σ2=>aB G σ2 a=some xs) <|
 aI6 (aW G σ a) (fun xs=>xs.length≤sizeLine∧K (.l xs) fun σ2=>aW G σ2 a=some xs) <|
 aB4 (cF3 G σ a) fun r=>sel (r.2.2==1) ((Builtin.Range.small r.1 r.2.1 1=true∧(r.2.1 - r.1).toNat≤sizeLine)∧K (.r r.1 (r.2.1 - r.1).toNat) fun u_=>True) <|
  aG8 (r.2.2==-1) ((Builtin.Range.small r.1 r.2.1 (-1)=true∧(r.1 - r.2.1).toNat≤sizeLine)∧K (.d r.1 (r.1 - r.2.1).toNat) fun u_=>True)
noncomputable def cB4 (scope outer:Scope):Scope :=
 {scope with names:=scope.names.map fun (n,k)=>if (k==.free && outer.kind==.function && outer.names.lookup n==some .cell) then (n,.cell) else (n,k)}
noncomputable def Gx.comp (G:Gx) (scope:Scope):Gx:={G with cs:=cB4 scope G.cs,isx:=fun u_=>false,exe:=fun u_ u_ u_=>False}
noncomputable def cC7 (G:Gx) (scope:Scope) (xs:List Str):Bool:=scope.kind==.function && scope.names.all (fun y=>!(y.2==NameKind.cell)) && scope.names.all (fun y=>!(y.2==NameKind.local) || scope.names.lookup y.1==some .local) && xs.all (fun x=>scope.names.lookup x==some .local) &&
 scope.names.all fun y=>!(y.2==NameKind.free) || ((G.cs.names.lookup y.1==some .cell || G.cs.names.lookup y.1==some .free) && (G.ce.lookup y.1).isSome)
noncomputable def St.inn (σ:St) (l:List (Str × AV)):St:=⟨l,σ.obj,σ.wd⟩
noncomputable def St.out (σ:St) (loc:List (Str × AV)):St:=⟨loc,σ.obj,σ.wd⟩
noncomputable def tgt (G:Gx) (σ:St) (t:Expr) (c:AV) (K:List (Str × AV)→Prop):Prop :=
 aI6 (aE7 t) (fun x=>K [(x,c)]) <| aB4 (bG8 t) fun ts=>aB4 (ts.mapM aE7) fun xs=>aB4 (bX7 G σ c) fun as=>aG8 (xs.length==as.length && aT8 xs) <| K (xs.zip as)
noncomputable def bK (G:Gx) (f:Bool→Expr→St→(AV→St→Prop)→Prop) (tg elt:Expr) (ct:Option Expr) (c:AV) (loc:List (Str × AV)) (σ:St) (J:Option AV→St→Prop):Prop:=tgt G σ tg c fun l =>
 aI6 ct (fun t=>f true t (σ.inn l) fun b σ2=>aS8 b (f false elt σ2 fun y σ3=>J (some y) (σ3.out loc)) (J Option.none (σ2.out loc))) (f false elt (σ.inn l) fun y σ3=>J (some y) (σ3.out loc))
noncomputable def more (ys:List AV):Option AV→List AV
 | some y=>ys++[y]
 | Option.none=>ys
noncomputable def compV (G:Gx) (f:Bool→Expr→St→(AV→St→Prop)→Prop) (tg elt:Expr) (ct:Option Expr) (a:AV) (σ:St) (K:AV→St→Prop):Prop :=
 srcV G σ a fun q st=>∃ I:Nat→List AV→St→Prop,I 0 [] σ∧(∀ i ys σ1,I i ys σ1→st σ1∧σ1.loc=σ.loc) ∧
  (∀ i ys σ1 c,I i ys σ1→q.At i c→bK G f tg elt ct c σ.loc σ1 fun y σ2=>I (i + 1) (more ys y) σ2)∧∀ ys σ1,I q.len ys σ1→σ1.mkK (.list ys) fun k=>K (.obj k)
noncomputable def dC2:List Expr→Option (Option Expr)
 | []=>some Option.none
 | [t]=>some (some t)
 | _=>Option.none
noncomputable def cS8 (e:Expr):Bool:=!Nat.beq e.ctorIdx 7
noncomputable def cK2 (f:Gx→Bool→Expr→St→(AV→St→Prop)→Prop) (G:Gx) (elt:Expr) (gens:List Comprehension) (scope:Scope) (σ:St) (K:AV→St→Prop):Prop :=
 aB4 (aY2 gens) fun g=>aG8 (g.is_async==0 && cS8 g.iter) <| aB4 (bT3 g.target) fun xs=>aB4 (dC2 g.ifs) fun ct=>aG8 (cC7 G scope xs) <| f G false g.iter σ fun a σ1=>compV G (f (G.comp scope)) g.target elt ct a σ1 K
noncomputable def bop (op:BoolOp) (b d:Bool):Bool:=match isAnd op with
 | true=>b && d
 | false=>b || d
noncomputable def oFmt {α:Type} (f:Expr→Int→Option Expr→Pos→Option α):Expr→Option α:=bH0 Expr.ctorIdx 17 fun t h=>Expr.FormattedValue.elim t h f
theorem cU0 {α:Type} {f:Expr→Int→Option Expr→Pos→Option α} {e:Expr} {a:α} (h:oFmt f e=some a):∃ v c sp p,e=.FormattedValue v c sp p∧f v c sp p=some a :=
 let ⟨hk,h⟩:=aH2 h
 Expr.FormattedValue.elim (motive_1:=fun z=>∀ hk,Expr.FormattedValue.elim z hk f=some a→∃ v c sp p,z=.FormattedValue v c sp p∧f v c sp p=some a) e hk (fun v c sp p u_ h=>⟨v,c,sp,p,rfl,h⟩) hk h
noncomputable def cU (e:Expr):Option Expr:=match Nat.beq e.ctorIdx 19 with
 | true=>some e
 | false=>oFmt (fun v c sp u_=>match (c==-1) && sp.isNone with
  | true=>some v
  | false=>Option.none) e
noncomputable def jn (f:Expr→St→(AV→St→Prop)→Prop):List Expr→Str→St→(Str→St→Prop)→Prop
 | [],acc,σ,K=>K acc σ
 | e::r,acc,σ,K=>aB4 (cU e) fun e'=>f e' σ fun a σ1=>aB4 a.str? fun x=>(acc++x).length≤sizeLine∧jn f r (acc++x) σ1 K
noncomputable def bK3:AV→Option Addr
 | .val v=>match v with
  | .ref a=>some a
  | _=>Option.none
 | _=>Option.none
noncomputable def bmOf (σ:St):AV→Option AV
 | .obj k=>σ.obj[k]?.bind AO.bm?
 | _=>Option.none
noncomputable def long2:List Expr→Bool
 | _::_::_=>true
 | _=>false
noncomputable def evE (f:Gx→Bool→Expr→St→(AV→St→Prop)→Prop) (G:Gx) (e:Expr) (σ:St) (K:AV→St→Prop):Prop:=match e with
 | .Name x _=>name G σ x fun a=>K a σ
 | .Constant c _ _=>aB4 (cst? c) fun a=>K a σ
 | .BinOp a op b _=>f G false a σ fun x σ1=>f G false b σ1 fun y σ2=>bin G op x y σ2 K
 | .Compare a ops bs _=>aB4 (aY2 ops) fun op=>aB4 (aY2 bs) fun b=>aG8 (!behindInMarks op b) <| f G false a σ fun x σ1=>f G false b σ1 fun y σ2=>cmp G σ2 op x y fun c=>K (.bool c) σ2
 | .UnaryOp op a _=>f G false a σ fun x σ1=>unop G op x σ1 K
 | .BoolOp op es _=>aB4 (cK5 es) fun p=>f G false p.1 σ fun x σ1=>aB4 x.bool? fun b=>aB4 (pv G p.2 σ1) fun y=>aB4 y.bool? fun d=>K (.bool (bop op b d)) σ1
 | .IfExp t a b _=>f G true t σ fun c σ1=>aB4 c.bool? fun c=>aI6 ((pv G a σ1).bind fun x=>(pv G b σ1).bind fun y=>cY4 c x y) (fun z=>K z σ1) (aS8 (.bool c) (f G false a σ1 K) (f G false b σ1 K))
 | .Subscript a b _=>f G false a σ fun x σ1=>aI6 (cC6 b) (fun p=>evo (f G false) p.1 σ1 fun i σ2=>evo (f G false) p.2 σ2 fun j σ3=>slc G a x i j σ3 K) <| aG8 (aQ6 b) <| f G false b σ1 fun y σ2=>item G x y σ2 fun a=>K a σ2
 | .List es _=>aG8 (es.all aG5) <| evs (f G false) es σ fun as σ1=>aG8 (Nat.ble as.length 1000) <| σ1.mkK (.list as) fun k=>K (.obj k)
 | .Tuple es _ _=>aG8 (es.all aG5) <| evs (f G false) es σ fun as σ1=>aG8 (Nat.ble as.length 1000) <| σ1.mkK (.tup as) fun k=>K (.obj k)
 | .JoinedStr es _=>aG8 (long2 es) <| jn (f G false) es Str.empty σ fun x σ1=>x.length≤sizeLine∧K (.str x) σ1
 | .Attribute o nm _=>aG8 (nm==ofString "append" && aK0 o) <| f G false o σ fun r σ1=>aG8 (aS5 σ1 r).isSome <| σ1.mkK (.bm r) fun k=>K (.obj k)
 | .Call g args kws p=>aG8 kws.isEmpty <| aI6 (aY4 g) (fun t=>aG8 (aO4 t.1 args t.2.2 p) <| f G false t.1 σ fun r σ1 =>
   aI6 r.str? (fun x=>aB4 (G.meth t.2.1) fun id=>evs (f G false) args σ1 fun as σ2=>G.call (.builtin id) (.str x::as) σ2 K) <|
   aI6 (bK3 r) (fun a=>aB4 (G.vmeth σ1.wd a t.2.1) fun g=>evs (f G false) args σ1 fun as σ2=>G.call (.ref g) (.val (.ref a)::as) σ2 K) <|
   aG8 (t.2.1==ofString "append") <| aG8 (aS5 σ1 r).isSome <| evs (f G false) args σ1 fun as σ2=>aB4 (aY2 as) fun y=>app σ2 r y K) <|
  aG8 (aK0 g && !args.isEmpty && args.all aG5) <| f G false g σ fun fv σ1=>aI6 (valOf fv) (fun v=>aG8 (G.fn v) <| evs (f G false) args σ1 fun as σ2=>G.call v as σ2 K) <|
   aB4 (bmOf σ1 fv) fun r=>evs (f G false) args σ1 fun as σ2=>bmOf σ2 fv=some r∧aB4 (aY2 as) fun y=>app σ2 r y K
 | .ListComp elt gens scope _=>cK2 f G elt gens scope σ K
 | _=>False
noncomputable def bJ4 (e:Expr):Bool:=aK0 e || (Nat.beq e.ctorIdx 16 || (Nat.beq e.ctorIdx 21 || Nat.beq e.ctorIdx 19))
noncomputable def evT (f:Bool→Expr→St→(AV→St→Prop)→Prop) (G:Gx) (e:Expr) (σ:St) (K:AV→St→Prop):Prop:=match e with
 | .Compare a ops bs _=>aB4 (aY2 ops) fun op=>aB4 (aY2 bs) fun b=>aG8 (!behindInMarks op b) <| f false a σ fun x σ1=>f false b σ1 fun y σ2=>cmp G σ2 op x y fun c=>K (.bool c) σ2
 | .UnaryOp op a _=>aG8 (isNot op) <| f true a σ fun c σ1=>aB4 c.bool? fun c=>K (.bool !c) σ1
 | .BoolOp op es _=>aB4 (cK5 es) fun p=>f true p.1 σ fun c σ1=>sel (isAnd op)
   (aS8 c (f true p.2 σ1 fun d σ2=>aS8 d (K (.bool true) σ2) (K (.bool false) σ2)) (K (.bool false) σ1))
   (aS8 c (K (.bool true) σ1) (f true p.2 σ1 fun d σ2=>aS8 d (K (.bool true) σ2) (K (.bool false) σ2)))
 | e=>aG8 (bJ4 e) <| f false e σ fun a σ1=>tru G σ1 a fun c=>K (.bool c) σ1
noncomputable def ev:Nat→Gx→Bool→Expr→St→(AV→St→Prop)→Prop
 | 0,_,_,_,_,_=>False
 | n + 1,G,tm,e,σ,K=>sel tm (evT (ev n G) G e σ K) (sel (G.isx e) (G.exe e σ K) (evE (ev n) G e σ K))
noncomputable def bI2 (G:Gx) (x:Str) (a:AV) (σ:St) (K:St→Prop):Prop:=aB4 (G.cs.names.lookup x) fun k=>match k with
 | .local=>σ.putK x a K
 | .cell=>aB4 (G.ce.lookup x) fun k=>aG8 (bR6 σ k) (σ.setK k (.cell (some a)) K)
 | _=>False
noncomputable def aM (G:Gx):List Str→List AV→St→(St→Prop)→Prop
 | [],[],σ,K=>K σ
 | x::xs,a::as,σ,K=>bI2 G x a σ fun σ1=>aM G xs as σ1 K
 | _,_,_,_=>False
noncomputable def asg (G:Gx) (t:Expr) (a:AV) (σ:St) (K:St→Prop):Prop :=
 aI6 (bG8 t) (fun ts=>aB4 (bX7 G σ a) fun as=>aB4 (ts.mapM aE7) fun xs=>aG8 (xs.length==as.length) <| aM G xs as σ K) (aB4 (aE7 t) fun x=>bI2 G x a σ K)
noncomputable def aZ4 (e:Expr):Bool:=Nat.beq e.ctorIdx 8 || (Nat.beq e.ctorIdx 9 || Nat.beq e.ctorIdx 10)
noncomputable def inp (op:Operator) (x y:AV) (K:AV→Prop):Prop:=aG8 (isAdd op) <|
 aI6 x.int? (fun i=>aB4 y.int? fun j=>K (.int (i + j))) <| aB4 x.str? fun a=>aB4 y.str? fun b=>a.length + b.length≤sizeLine∧K (.str (a++b))
noncomputable def aE3 (K:Fl→St→Prop) (k:St→Prop):Fl→St→Prop:=fun fl σ=>match fl with
 | .next=>k σ
 | fl=>K fl σ
noncomputable def aC2 (K:Fl→St→Prop) (k:St→Prop) (again:St→Prop):Fl→St→Prop:=fun fl σ=>match fl with
 | .next=>again σ
 | .cont=>again σ
 | .brk=>k σ
 | .ret a=>K (.ret a) σ
noncomputable def aP:List Nat→Bool
 | []=>true
 | i::r=>!(r.any fun j=>i==j) && aP r
noncomputable def find? (k:Nat):List Nat→Option Nat
 | []=>none
 | i::r=>match i==k with
  | true=>some 0
  | false=>(find? k r).map (· + 1)
noncomputable def ren (n0:Nat) (sel:List Nat) (k:Nat):Option Nat:=match Nat.blt k n0 with
 | true=>some k
 | false=>(find? k sel).map (n0 + ·)
noncomputable def bD6 (n0:Nat) (sel:List Nat):AV→Option AV
 | .obj k=>(ren n0 sel k).map .obj
 | a=>some a
noncomputable def bK6 (n0:Nat) (sel:List Nat):AO→Option AO
 | .list xs=>(xs.mapM (bD6 n0 sel)).map .list
 | .tup xs=>(xs.mapM (bD6 n0 sel)).map .tup
 | .cell c=>some (.cell (c.bind (bD6 n0 sel)))
 | .bm r=>(bD6 n0 sel r).map .bm
 | o=>some o
noncomputable def aP6 {α:Type} (l:List α):List Nat→List α
 | []=>[]
 | i::r=>match l[i]? with
  | some a=>a::aP6 l r
  | none=>aP6 l r
noncomputable def pick {α:Type} (n0:Nat) (sel:List Nat) (l:List α):List α:=l.take n0++aP6 l sel
noncomputable def cV0 (n0:Nat) (sel:List Nat):List (Str × AV)→Option (List (Str × AV))
 | []=>some []
 | (x,a)::r=>(bD6 n0 sel a).bind fun b=>(cV0 n0 sel r).map ((x,b)::·)
noncomputable def bF2 (n0:Nat) (sel:List Nat) (σ:St):Option St:=(cV0 n0 sel σ.loc).bind fun loc=>((pick n0 sel σ.obj).mapM (bK6 n0 sel)).map fun obj=>⟨loc,obj,σ.wd⟩
noncomputable def aM2 (n0 n:Nat) (sel:List Nat):Bool:=Nat.ble n0 n && sel.all fun i=>Nat.ble n0 i && Nat.blt i n
noncomputable def St.only (σ:St) (keep:List Str):St:=⟨keep.filterMap fun x=>(σ.loc.lookup x).map (x,·),σ.obj,σ.wd⟩
noncomputable def aM3 (k:Nat) (a:Addr):AV→AV
 | .obj j=>match j==k with
  | true=>.fz a
  | false=>.obj j
 | x=>x
noncomputable def cR4 (k:Nat) (a:Addr):AO→AO
 | .list xs=>.list (xs.map (aM3 k a))
 | .tup xs=>.tup (xs.map (aM3 k a))
 | .cell c=>.cell (c.map (aM3 k a))
 | .bm r=>.bm (aM3 k a r)
 | o=>o
noncomputable def St.sub (σ:St) (k:Nat) (a:Addr):St:=⟨σ.loc.map fun p=>(p.1,aM3 k a p.2),σ.obj.map (cR4 k a),σ.wd⟩
noncomputable def Wd.add (w:Wd) (a:Addr) (ao:AO):Wd:=⟨w.v,fun b=>if b=a then some ao else w.fz b⟩
noncomputable def aV2:AV→Bool
 | .obj _=>false
 | .par _=>false
 | _=>true
noncomputable def dB0:AO→Bool
 | .list xs=>xs.all aV2
 | _=>false
inductive again (n0:Nat) (J:St→Prop):St→Prop
 | here {σ} (h:J σ):again n0 J σ
 | ren {σ} (keep:List Str) (sel:List Nat) (σ':St) (h1:(aM2 n0 σ.obj.length sel && aP sel)=true) (h2:bF2 n0 sel (σ.only keep)=some σ') (h3:J σ'):again n0 J σ
 | frz {σ} (keep:List Str) (k:Nat) (ao:AO) (sel:List Nat) (σ1:Addr→St) (h1:(aM2 n0 σ.obj.length sel && aP sel)=true) (hs:(Nat.ble n0 k && !(sel.any fun j=>k==j))=true) (hk:σ.obj[k]?=some ao) (ha:dB0 ao=true)
   (h2:∀ a,bF2 n0 sel ((σ.only keep).sub k a)=some (σ1 a)) (h3:∀ a,σ.wd.fz a=none→again n0 J ⟨(σ1 a).loc,(σ1 a).obj,σ.wd.add a ao⟩):again n0 J σ
noncomputable def asgT (G:Gx) (sw:Option (List Str)) (t:Expr) (a:AV) (σ:St) (K:St→Prop):Prop :=
 aI6 sw (fun xs=>aB4 (aW G σ a) fun as=>aG8 (xs.length==as.length) <| aM G xs.reverse as.reverse σ K) (asg G t a σ K)
noncomputable def dC7:Expr→Option (Expr × Expr × Pos):=oSub fun o i p=>match aK0 o && aQ6 i with
 | true=>some (o,i,p)
 | false=>Option.none
noncomputable def idxIn (k:Int) (n:Nat) (K:Nat→Prop):Prop:=(0≤k∧k < n∧n≤16777216)∧K k.toNat
noncomputable def setV (r:AV) (k:Int) (y:AV) (σ:St) (K:St→Prop):Prop:=cQ4 (aS5 σ r) fun i xs=>idxIn k xs.length fun j=>σ.setK i (.list (xs.set j y)) K
noncomputable def delV (r:AV) (k:Int) (σ:St) (K:St→Prop):Prop:=cQ4 (aS5 σ r) fun i xs=>idxIn k xs.length fun j=>σ.setK i (.list (xs.eraseIdx j)) K
noncomputable def cG4:Option Value→Bool
 | some v=>match v with
  | .type x=>x=="enumerate"
  | _=>false
 | Option.none=>false
noncomputable def cev (n:Nat) (G:Gx) (e:Expr) (σ:St) (K:AV→St→Prop):Prop:=aB4 (cG2 (fun elt gens scope u_=>some (elt,gens,scope)) e) fun q=>cK2 (ev n) G q.1 q.2.1 q.2.2 σ K
noncomputable def cO9 (G:Gx) (t e:Expr):Bool:=(cG7 (fun x pt=>cG2 (fun u_ u_ sc pe=>some (aJ7 G x && (pt.line==pe.line) && !(sc.names.any fun (n,k)=>n==x && (k==.local || k==.cell)))) e) t).getD false
noncomputable def bE2 (G:Gx):Expr→Option Expr:=bK8 fun g args kws u_=>(aE7 g).bind fun x=>match x==ofString "enumerate" && kws.isEmpty && args.all aG5 && cG4 (G.glob x) && (G.cs.names.lookup x==some .globalImplicit) with
 | true=>aY2 args
 | false=>Option.none
noncomputable def cM8 (x y z:Str):Option Str:=match (Builtin.Str.occurrences x y 0 x.length (x.length + 1)).isEmpty || (y.length==0 && z.length==0) with
 | true=>some x
 | false=>match (!(y==z) && !Builtin.Str.tooLong (x.length + (Builtin.Str.occurrences x y 0 x.length (x.length + 1)).length * z.length)) && Nat.ble (Builtin.Str.glued z (Builtin.Str.partsBetween x (Builtin.Str.occurrences x y 0 x.length (x.length + 1)) y.length)).length 1000 with
  | true=>some (Builtin.Str.glued z (Builtin.Str.partsBetween x (Builtin.Str.occurrences x y 0 x.length (x.length + 1)) y.length))
  | false=>Option.none
noncomputable def cY5:Expr→Option Str:=cH1 fun c u_ u_=>match c with
 | .str x=>some x
 | _=>Option.none
noncomputable def dC6:Expr→Option (Str × Str × Str):=bK8 fun g args kws p=>(aY4 g).bind fun t=>match kws.isEmpty && (aO4 t.1 args t.2.2 p && t.2.1==ofString "replace") with
 | true=>(aE7 t.1).bind fun x=>(cK5 args).bind fun q=>(cY5 q.1).bind fun y=>(cY5 q.2).map fun z=>(x,y,z)
 | false=>Option.none
noncomputable def sub?:Expr→Option (Expr × Expr):=oSub fun a b u_=>some (a,b)
noncomputable def cU2:Stmt→Option (Expr × Expr):=oAsg fun ts e u_=>(aY2 ts).map fun t=>(t,e)
noncomputable def rep?:List Stmt→Option ((Expr × Expr × (Str × Str × Str) × (Option Expr × Option Expr)) × List Stmt)
 | st::rest=>(cU2 st).bind fun q=>match aK0 q.1 with
  | true=>(sub? q.2).bind fun ab=>(cC6 ab.2).bind fun sl=>(dC6 ab.1).map fun r=>((q.1,ab.1,r,sl),rest)
  | false=>Option.none
 | []=>Option.none
noncomputable def tloc (G:Gx) (t:Expr):Bool:=((aE7 t).map (aJ7 G)).getD false
noncomputable def repV (f:Expr→St→(AV→St→Prop)→Prop) (G:Gx) (a:Expr) (r:Str × Str × Str) (sl:Option Expr × Option Expr) (σ:St) (K:AV→St→Prop):Prop :=
 aG8 (G.meth (ofString "replace")==some "str.replace") <| aB4 (bU5 G σ r.1) fun x=>aB4 x.str? fun x=>∃ y,cM8 x r.2.1 r.2.2=some y∧evo f sl.1 σ fun i σ2=>evo f sl.2 σ2 fun j σ3=>slc G a (.str y) i j σ3 K
noncomputable def ex (G:Gx):Nat→List Stmt→St→(Fl→St→Prop)→Prop
 | 0,_,_,_=>False
 | n + 1,sts,σ,K=>match sts with
  | []=>K .next σ
  | st::rest=>match st with
   | .Assign ts e _=>aI6 (aY2 ts) (fun t=>sel (aZ4 e) (aG8 (cO9 G t e) <| cev n G e σ fun a σ1=>asg G t a σ1 fun σ2=>ex G n rest σ2 K) <|
     sel (G.isx t) (G.exo st σ (aE3 K fun σ1=>ex G n rest σ1 K)) <|
     sel (aK0 t) (ev n G false e σ fun a σ1=>asg G t a σ1 fun σ2=>ex G n rest σ2 K) <|
     aI6 (dC7 t) (fun q=>ev n G false e σ fun a σ1=>ev n G false q.1 σ1 fun r σ2=>ev n G false q.2.1 σ2 fun i σ3=>aB4 i.int? fun k=>setV r k a σ3 fun σ4=>ex G n rest σ4 K) <|
     aG8 (bG8 t).isSome (∃ sw,(∀ env:Env,env.scope=G.cs→swappedStores [t] e env=pure sw)∧ev n G false e σ fun a σ1=>asgT G sw t a σ1 fun σ2=>ex G n rest σ2 K)) (G.exo st σ (aE3 K fun σ1=>ex G n rest σ1 K))
   | .AugAssign t op e _=>aI6 (aE7 t) (fun x=>aG8 (aJ7 G x) <| aB4 (σ.loc.lookup x) fun old=>ev n G false e σ fun a σ1=>inp op old a fun z=>bI2 G x z σ1 fun σ2=>ex G n rest σ2 K) (G.exo st σ (aE3 K fun σ1=>ex G n rest σ1 K))
   | .If t b o _=>sel (G.isx t) (G.exo st σ (aE3 K fun σ1=>ex G n rest σ1 K)) <| ev n G true t σ fun c σ1=>aS8 c (ex G n b σ1 (aE3 K fun σ2=>ex G n rest σ2 K)) (ex G n o σ1 (aE3 K fun σ2=>ex G n rest σ2 K))
   | .While t b o _=>∃ (I:Nat→St→Prop) (k:Nat),I k σ∧∀ k σ1,I k σ1→ev n G true t σ1 fun c σ2=>aS8 c
     (ex G n b σ2 (aC2 K (fun σ3=>ex G n rest σ3 K) (again σ.obj.length fun σ3=>∃ j,j < k∧I j σ3))) (ex G n o σ2 (aE3 K fun σ3=>ex G n rest σ3 K))
   | .For t it b o _=>sel (G.isx it) (G.exo st σ (aE3 K fun σ1=>ex G n rest σ1 K)) <| aG8 (cS8 it) <|
     aI6 (bE2 G it) (fun e=>aB4 ((bG8 t).bind fun ts=>ts.mapM aE7) fun xs=>aG8 (xs.length==2) <| ev n G false e σ fun a σ1=>aB4 (bK3 a) fun l=>aB4 ((G.tab l).bind AO.tup?) fun ys=>∃ I:Nat→St→Prop,I 0 σ1 ∧
       (∀ i σ2 c,I i σ2→ys[i]?=some c→aM G xs [.int i,c] σ2 fun σ3=>ex G n b σ3 (aC2 K (fun σ4=>ex G n rest σ4 K) (again σ1.obj.length (I (i + 1)))))∧∀ σ2,I ys.length σ2→ex G n o σ2 (aE3 K fun σ3=>ex G n rest σ3 K)) <|
     ev n G false it σ fun a σ1=>srcV G σ1 a fun q stays =>
     ∃ I:Nat→St→Prop,I 0 σ1∧(∀ i σ2,I i σ2→stays σ2)∧(∀ i σ2 c,I i σ2→q.At i c→asg G t c σ2 fun σ3=>ex G n b σ3 (aC2 K (fun σ4=>ex G n rest σ4 K) (again σ1.obj.length (I (i + 1))))) ∧
       ∀ σ2,I q.len σ2→ex G n o σ2 (aE3 K fun σ3=>ex G n rest σ3 K)
   | .Return v _=>aI6 v (fun e=>ev n G false e σ fun a σ1=>K (.ret a) σ1) (K (.ret .none) σ)
   | .Expr e _=>aG8 (!aZ4 e) <| ev n G false e σ fun u_ σ1=>ex G n rest σ1 K
   | .Delete ts _=>aB4 (aY2 ts) fun t=>aB4 (dC7 t) fun q=>ev n G false q.1 σ fun r σ1=>ev n G false q.2.1 σ1 fun i σ2=>aB4 i.int? fun k=>delV r k σ2 fun σ3=>ex G n rest σ3 K
   | .Pass _=>ex G n rest σ K
   | .Break _=>K .brk σ
   | .Continue _=>K .cont σ
   | .Assert t m _=>aG8 m.isNone <| ev n G true t σ fun c σ1=>c=.bool true∧ex G n rest σ1 K
   | _=>G.exo st σ (aE3 K fun σ1=>ex G n rest σ1 K)
noncomputable def exR (G:Gx) (n:Nat) (sts:List Stmt) (σ:St) (K:Fl→St→Prop):Prop:=match sts with
 | st::rest=>aB4 (cU2 st) fun te=>aG8 (tloc G te.1 && !aZ4 te.2) <| aB4 (rep? rest) fun q=>ev n G false te.2 σ fun a σ1=>asg G te.1 a σ1 fun σ2=>repV (ev n G false) G q.1.2.1 q.1.2.2.1 q.1.2.2.2 σ2 fun b σ3=>asg G q.1.1 b σ3 fun σ4=>ex G n q.2 σ4 K
 | []=>False
structure Vw where
 h₀:Heap
 L:Addr
 β:List Addr
 W:Wd→List (Addr × Obj)→Prop
 nm:(Str→Option Value)→Str→Option Value
 cl:List (Str × Nat × Addr)
noncomputable def Vw.plus (V:Vw) (hx:List (Addr × Obj)):Vw:={V with W:=fun wd l=>∃ l0,l=hx++l0∧V.W wd l0}
theorem Vw.plus_nil (V:Vw):V.plus []=V:=by
 have:(fun wd l=>∃ l0,l=[]++l0∧V.W wd l0)=V.W:=by
  funext wd l
  exact propext ⟨fun ⟨l0,e,h⟩=>e▸h,fun h=>⟨l,rfl,h⟩⟩
 refine (?_:{V with W:=_}=V);(refine rwg (this ..) ?_;rfl)
theorem Vw.plus_plus (V:Vw) (hx hy:List (Addr × Obj)):(V.plus hx).plus hy=V.plus (hy++hx):=by
 have:(fun wd l=>∃ l0,l=hy++l0∧∃ l1,l0=hx++l1∧V.W wd l1)=fun wd l=>∃ l1,l=(hy++hx)++l1∧V.W wd l1:=by
  funext wd l
  exact propext ⟨fun ⟨l0,e,l1,e',h⟩=>⟨l1,by (refine rwg (e ..) ?_;refine rwg (e' ..) ?_;refine rwg (append_assoc ..) ?_;rfl),h⟩,fun ⟨l1,e,h⟩=>⟨hx++l1,by (refine rwg (e ..) ?_;refine rwg (append_assoc ..) ?_;rfl),l1,rfl,h⟩⟩
 exact congrArg (fun W=>{V with W:=W}) this
structure Pcs (V:Vw) (σ:St) (m:Str→Option Value) (hw nw:List (Addr × Obj)):Prop where
 hW:V.W σ.wd hw
 nd:((hw++nw).map (·.1)).Nodup
 len:σ.obj.length=nw.length
 ob:∀ (n:Nat) (ao:AO) (a:Addr) (o:Obj),σ.obj[n]?=some ao→nw[n]?=some (a,o)→ao.Is V.β (nw.map (·.1)) o
 lo:∀ (x:Str) (a:AV),σ.loc.lookup x=some a→∃ v,V.nm m x=some v∧a.Is V.β (nw.map (·.1)) v
 ce:∀ c∈V.cl,(nw.map (·.1))[c.2.1]?=some c.2.2
structure Rel (V:Vw) (m:Str→Option Value) (ρ:List Addr) (σ:St) (h:Heap):Prop where
 pcs:∃ hw nw,ρ=nw.map (·.1)∧Fr V.h₀ V.L h m∧News V.h₀ V.L h (hw++nw)∧Pcs V σ m hw nw
theorem Rel.el {V:Vw} {m:Str→Option Value} {ρ:List Addr} {σ:St} {h:Heap} {C:Prop} (R:Rel V m ρ σ h) (k:∀ hw nw,ρ=nw.map (·.1)→Fr V.h₀ V.L h m→News V.h₀ V.L h (hw++nw)→Pcs V σ m hw nw→C):C:=R.pcs.elim fun hw h=>h.elim fun nw h=>k hw nw h.1 h.2.1 h.2.2.1 h.2.2.2
theorem AV.Is.more {β ρ:List Addr} {a:AV} {v:Value} (h:a.Is β ρ v) (r:List Addr):a.Is β (ρ++r) v:=by
 cases a with
 | obj n=>(refine aA3 h ?_;clear h;intro b hb e);exact (aA0 (b) (by refine rwg (getElem?_append_left (List.getElem?_eq_some_iff.mp hb).1 ..) ?_;exact hb) (e))
 | _=>exact h
theorem AllIs.more {β ρ:List Addr} {as:List AV} {vs:List Value} (h:AllIs β ρ as vs) (r:List Addr):AllIs β (ρ++r) as vs:=by
 induction h with
 | nil=>exact .nil
 | cons a _ ih=>exact .cons (a.more r) ih
theorem AO.Is.more {β ρ:List Addr} {a:AO} {o:Obj} (h:a.Is β ρ o) (r:List Addr):a.Is β (ρ++r) o:=by
 cases a with
 | list xs=>(refine aG9 h ?_;clear h;intro vs n e k);exact ⟨vs,n,e,k.more r⟩
 | tup xs=>obtain ⟨c,vs,n,e,k⟩:=h;exact ⟨c,vs,n,e,k.more r⟩
 | cell a=>(refine aA3 h ?_;clear h;intro v e k);exact ⟨v,e,fun a' h'=>let ⟨v',q,i⟩:=k a' h';⟨v',q,i.more r⟩⟩
 | bm a=>(refine aA3 h ?_;clear h;intro l e k);exact (aA0 (l) (e) (k.more r))
 | _=>exact h
theorem AllIs.uncons {β ρ:List Addr} {a:AV} {as:List AV} {vs:List Value} {C:List Value→Prop} (i:AllIs β ρ (a::as) vs) (k:∀ v r,a.Is β ρ v→AllIs β ρ as r→C (v::r)):C vs:=by cases i with | cons h t=>exact k _ _ h t
theorem AllIs.unnil {β ρ:List Addr} {vs:List Value} {C:List Value→Prop} (i:AllIs β ρ [] vs) (k:C []):C vs:=by cases i;exact k
theorem AllIs.c1 {β ρ:List Addr} {a:AV} {vs:List Value} {C:List Value→Prop} (i:AllIs β ρ [a] vs) (k:∀ v,a.Is β ρ v→C [v]):C vs:=i.uncons fun v r ia i=>i.unnil (C:=fun r=>C (v::r)) (k v ia)
theorem AllIs.c2 {β ρ:List Addr} {a b:AV} {vs:List Value} {C:List Value→Prop} (i:AllIs β ρ [a,b] vs) (k:∀ v w,a.Is β ρ v→b.Is β ρ w→C [v,w]):C vs:=i.uncons fun v r ia i=>i.c1 (C:=fun r=>C (v::r)) fun w ib=>k v w ia ib
theorem AllIs.c3 {β ρ:List Addr} {a b c:AV} {vs:List Value} {C:List Value→Prop} (i:AllIs β ρ [a,b,c] vs) (k:∀ v w x,a.Is β ρ v→b.Is β ρ w→c.Is β ρ x→C [v,w,x]):C vs:=i.uncons fun v r ia i=>i.c2 (C:=fun r=>C (v::r)) fun w x ib ic=>k v w x ia ib ic
theorem AllIs.c4 {β ρ:List Addr} {a b c d:AV} {vs:List Value} {C:List Value→Prop} (i:AllIs β ρ [a,b,c,d] vs) (k:∀ v w x y,a.Is β ρ v→b.Is β ρ w→c.Is β ρ x→d.Is β ρ y→C [v,w,x,y]):C vs:=i.uncons fun v r ia i=>i.c3 (C:=fun r=>C (v::r)) fun w x y ib ic id=>k v w x y ia ib ic id
theorem AllIs.w1 {β ρ:List Addr} {a:AV} {vs xs:List Value} {M:Model} {A:Around} {g:Value} {Q E:Value→Shared→Prop} {s:Shared} (i:AllIs β ρ [a] vs) (k:∀ v,a.Is β ρ v→wpAny M A (call g (xs++[v])) Q E s):wpAny M A (call g (xs++vs)) Q E s:=i.c1 (C:=fun vs=>wpAny M A (call g (xs++vs)) Q E s) k
theorem AllIs.v1 {β ρ:List Addr} {a:AV} {vs:List Value} {M:Model} {A:Around} {g:Value} {Q E:Value→Shared→Prop} {s:Shared} (i:AllIs β ρ [a] vs) (k:∀ v,a.Is β ρ v→wpAny M A (call g [v]) Q E s):wpAny M A (call g vs) Q E s:=i.c1 (C:=fun vs=>wpAny M A (call g vs) Q E s) k
theorem AllIs.v2 {β ρ:List Addr} {a b:AV} {vs:List Value} {M:Model} {A:Around} {g:Value} {Q E:Value→Shared→Prop} {s:Shared} (i:AllIs β ρ [a,b] vs) (k:∀ v w,a.Is β ρ v→b.Is β ρ w→wpAny M A (call g [v,w]) Q E s):wpAny M A (call g vs) Q E s:=i.c2 (C:=fun vs=>wpAny M A (call g vs) Q E s) k
theorem AllIs.v3 {β ρ:List Addr} {a b c:AV} {vs:List Value} {M:Model} {A:Around} {g:Value} {Q E:Value→Shared→Prop} {s:Shared} (i:AllIs β ρ [a,b,c] vs) (k:∀ v w x,a.Is β ρ v→b.Is β ρ w→c.Is β ρ x→wpAny M A (call g [v,w,x]) Q E s):wpAny M A (call g vs) Q E s:=i.c3 (C:=fun vs=>wpAny M A (call g vs) Q E s) k
theorem AllIs.v4 {β ρ:List Addr} {a b c d:AV} {vs:List Value} {M:Model} {A:Around} {g:Value} {Q E:Value→Shared→Prop} {s:Shared} (i:AllIs β ρ [a,b,c,d] vs) (k:∀ v w x y,a.Is β ρ v→b.Is β ρ w→c.Is β ρ x→d.Is β ρ y→wpAny M A (call g [v,w,x,y]) Q E s):wpAny M A (call g vs) Q E s:=i.c4 (C:=fun vs=>wpAny M A (call g vs) Q E s) k
theorem AllIs.one {β ρ:List Addr} {a:AV} {vs:List Value} (i:AllIs β ρ [a] vs):∃ v,vs=[v]∧a.Is β ρ v:=i.c1 (C:=fun vs=>∃ v,vs=[v]∧a.Is β ρ v) fun v ia=>(aA0 (v) (rfl) (ia))
theorem AllIs.length {β ρ:List Addr} {as:List AV} {vs:List Value} (h:AllIs β ρ as vs):as.length=vs.length:=by
 induction h with
 | nil=>rfl
 | cons _ _ ih=>(refine rwg (length_cons ..) ?_;refine rwg (length_cons ..) ?_;refine rwg (ih ..) ?_;rfl)
theorem AllIs.append {β ρ:List Addr} {as bs:List AV} {vs ws:List Value} (h:AllIs β ρ as vs) (k:AllIs β ρ bs ws):AllIs β ρ (as++bs) (vs++ws):=by
 induction h with
 | nil=>exact k
 | cons a _ ih=>exact .cons a ih
theorem AllIs.get {β ρ:List Addr} {as:List AV} {vs:List Value} (h:AllIs β ρ as vs):∀ {n:Nat} {a:AV},as[n]?=some a→∃ v,vs[n]?=some v∧a.Is β ρ v:=by
 induction h with
 | nil=>intro n a e;simp at e
 | cons x _ ih =>
  intro n a e;cases n with
  | zero=>obtain rfl:=Option.some.inj e;exact (aA0 (_) (rfl) (x))
  | succ n=>exact ih e
theorem AV.int_is {β ρ:List Addr} {a:AV} {k:Int} {v:Value} (h:a.int?=some k) (i:a.Is β ρ v):∃ t,v=.int k t:=by
 cases a with
 | int j=>cases h;exact i
 | val x=>cases x<;>first | (cases h;exact ⟨_,i⟩) | cases h
 | _=>cases h
theorem AV.int_el {β ρ:List Addr} {a:AV} {k:Int} {v:Value} {C:Prop} (h:a.int?=some k) (i:a.Is β ρ v) (q:∀ t,v=.int k t→C):C:=(AV.int_is h i).elim q
theorem AV.str_is {β ρ:List Addr} {a:AV} {k:Str} {v:Value} (h:a.str?=some k) (i:a.Is β ρ v):∃ t,v=.str k t:=by
 cases a with
 | str j=>cases h;exact i
 | val x=>cases x<;>first | (cases h;exact ⟨_,i⟩) | cases h
 | _=>cases h
theorem AV.str_el {β ρ:List Addr} {a:AV} {k:Str} {v:Value} {C:Prop} (h:a.str?=some k) (i:a.Is β ρ v) (q:∀ t,v=.str k t→C):C:=(AV.str_is h i).elim q
theorem AV.bool_is {β ρ:List Addr} {a:AV} {k:Bool} {v:Value} (h:a.bool?=some k) (i:a.Is β ρ v):v=.bool k:=by
 cases a with
 | bool j=>cases h;exact i
 | _=>cases h
theorem AllIs.ints {β ρ:List Addr} {as:List AV} {vs:List Value} (h:AllIs β ρ as vs):∀ {ns:List Int},aD6 AV.int? as=some ns→IntsAre vs ns:=by
 induction h with
 | nil=>intro ns e;obtain rfl:=Option.some.inj e;exact .nil
 | cons a _ ih =>
  intro ns e;(refine aA1 e ?_;intro x hx e)
  (refine aB9 e ?_;intro r hr eo0;clear e;clear e;subst eo0)
  (refine AV.int_el hx a ?_;intro t eo0;clear a;subst eo0)
  exact .cons _ _ (ih hr)
theorem dD {β ρ:List Addr} {k:Int} (t:Tok):(AV.int k).Is β ρ (.int k t):=⟨t,rfl⟩
theorem bR4 {β ρ:List Addr} {vs:List Value} {ns:List Int} (h:IntsAre vs ns):AllIs β ρ (ns.map .int) vs:=by
 induction h with
 | nil=>exact .nil
 | cons _ t r ih=>exact .cons (dD t) ih
theorem AllIs.strs {β ρ:List Addr} {as:List AV} {vs:List Value} (h:AllIs β ρ as vs):∀ {ns:List Str},aD6 AV.str? as=some ns→StrsAre vs ns:=by
 induction h with
 | nil=>intro ns e;obtain rfl:=Option.some.inj e;exact .nil
 | cons a _ ih =>
  intro ns e;(refine aA1 e ?_;intro x hx e)
  (refine aB9 e ?_;intro r hr eo0;clear e;clear e;subst eo0)
  (refine AV.str_el hx a ?_;intro t eo0;clear a;subst eo0)
  exact .cons _ _ (ih hr)
section
variable {V:Vw} {σ:St} {h h':Heap} {m:Str→Option Value} {hw nw:List (Addr × Obj)} {ρ:List Addr}
theorem Pcs.rel (P:Pcs V σ m hw nw) (F:Fr V.h₀ V.L h m) (N:News V.h₀ V.L h (hw++nw)):Rel V m (nw.map (·.1)) σ h:=⟨hw,nw,rfl,F,N,P⟩
theorem Pcs.new {l:Addr} {o:Obj} {ao:AO} (P:Pcs V σ m hw nw) (F':Fr V.h₀ V.L h' m) (N':News V.h₀ V.L h' ((l,o)::(hw++nw))) (hne:∀ p∈hw++nw,p.1≠l) (hi:ao.Is V.β (nw.map (·.1)) o):Rel V m (nw.map (·.1)++[l]) (σ.mk' ao) h':=by
 have e:(nw++[(l,o)]).map (·.1)=nw.map (·.1)++[l]:=by rw [map_append];rfl
 refine ⟨hw,nw++[(l,o)],e.symm,F',fun p hp=>N' p ?_,P.hW,?_,?_,?_,fun x a hx=>?_,fun c hc=>?_⟩
 ·replace hp:=(Eq.symm (append_assoc ..))▸hp;exact (mem_append.mp hp).elim (.tail _) fun hp=>mem_singleton.mp hp▸.head _
 ·rw [← append_assoc,map_append,nodup_append];refine ⟨P.nd,nodup_cons.mpr ⟨not_mem_nil,nodup_nil⟩,fun a ha b hb=>?_⟩;clear N' e;obtain rfl:=mem_singleton.mp hb;rintro rfl;(refine aA6 ha ?_;intro p hp eo0;clear ha hb;subst eo0)
  exact hne p hp rfl
 ·refine (?_:(σ.obj++[ao]).length=_);rw [List.length_append,List.length_append,P.len];rfl
 ·intro n ao' a o' e1 e2;have e1:(σ.obj++[ao])[n]?=some ao':=e1;refine rwg (e ..) ?_;by_cases hn:n < σ.obj.length
  ·replace e1:=(getElem?_append_left hn ..)▸e1;replace e2:=(getElem?_append_left (P.len▸hn) ..)▸e2;exact (P.ob n ao' a o' e1 e2).more _
  ·(replace e1:=(getElem?_append_right (Nat.not_lt.mp hn) ..)▸e1;replace e1:=(List.getElem?_singleton ..)▸e1)
   (replace e2:=(getElem?_append_right (P.len▸Nat.not_lt.mp hn) ..)▸e2;replace e2:=(List.getElem?_singleton ..)▸e2;replace e2:=(Eq.symm (P.len ..))▸e2)
   split at e1
   ·cases e1
    rw [if_pos (by assumption)] at e2;cases e2
    exact hi.more _
   ·cases e1
 ·(refine aA3 (P.lo x a hx) ?_;intro v hv hi')
  exact (aA0 (v) (hv) (e▸hi'.more _))
 ·(refine rwg (e ..) ?_;refine rwg (getElem?_append_left (List.getElem?_eq_some_iff.mp (P.ce c hc)).1 ..) ?_)
  exact P.ce c hc
theorem aJ6 {β ρ:List Addr} {k:Int} (t:Tok):(AV.int k).Is β ρ (.int k t):=⟨t,rfl⟩
theorem aF5 {β ρ:List Addr} {k:Str} (t:Tok):(AV.str k).Is β ρ (.str k t):=⟨t,rfl⟩
theorem bB {β ρ:List Addr} {l:Addr} {n:Nat} (h:n=ρ.length):(AV.obj n).Is β (ρ++[l]) (.ref l):=(aA0 (l) (by subst h;(refine rwg (getElem?_append_right (le_refl _) ..) ?_;refine rwg (sub_self ..) ?_);rfl) (rfl))
theorem Rel.toks (R:Rel V m ρ σ h):Rel V m (ρ++[]) σ h:=(append_nil ρ).symm▸R
theorem map_set {nw:List (Addr × Obj)} {k:Nat} {D:Addr} {o o':Obj} (hk:nw[k]?=some (D,o)):(nw.set k (D,o')).map (·.1)=nw.map (·.1):=by
 have e:(nw.map (·.1))[k]?=some D:=by rw [getElem?_map,hk];rfl
 (refine aH5 e ?_;intro h e)
 rw [List.map_set];refine (?_:(nw.map (·.1)).set k D=_);(refine rwb (e ..) ?_;refine rwg (List.set_getElem_self ..) ?_;rfl)
theorem Pcs.set {k:Nat} {D:Addr} {o o':Obj} {ao:AO} (P:Pcs V σ m hw nw) (hk:nw[k]?=some (D,o)) (hi:ao.Is V.β (nw.map (·.1)) o'):Pcs V (σ.set k ao) m hw (nw.set k (D,o')):=by
 have e:=map_set (o':=o') hk;refine ⟨P.hW,by (refine rwg (map_append ..) ?_;refine rwg (e ..) ?_;refine rwb (map_append ..) ?_);exact P.nd,by refine (?_:(σ.obj.set k ao).length=_);(refine rwg (List.length_set ..) ?_;refine rwg (List.length_set ..) ?_;refine rwg (P.len ..) ?_;rfl),fun j ao' a o1 e1 e2=>?_,by rw [e];exact P.lo,by rw [e];exact P.ce⟩;refine rwg (e ..) ?_;have e1:(σ.obj.set k ao)[j]?=some ao':=e1;rw [List.getElem?_set] at e1 e2;by_cases hj:k=j
 ·subst hj;rw [if_pos rfl] at e1 e2;replace e1:=(if_pos (P.len▸(List.getElem?_eq_some_iff.mp hk).1) ..)▸e1;replace e2:=(if_pos (List.getElem?_eq_some_iff.mp hk).1 ..)▸e2;obtain rfl:=Option.some.inj e1;cases e2
  exact hi
 ·rw [if_neg hj] at e1 e2;exact P.ob j ao' a o1 e1 e2
theorem News.set {h₀:Heap} {L:Addr} {k:Nat} {D:Addr} {o o':Obj} (N:News h₀ L h (hw++nw)) (nd:((hw++nw).map (·.1)).Nodup) (hk:nw[k]?=some (D,o)) (hb:Heap.SameBut D h h') (ho:h'.get? D=some o'):News h₀ L h' (hw++nw.set k (D,o')):=by
 have hD:=N (D,o) (mem_append_right _ (mem_of_getElem? hk));rw [map_append,nodup_append] at nd;intro p hp;rcases mem_append.mp hp with hp | hp
 ·exact ⟨hb.extBut _ _ (fun e=>nd.2.2 p.1 (mem_map.mpr (aA0 (p) (hp) (rfl))) D (mem_map.mpr (aA0 ((D,o)) (mem_of_getElem? hk) (rfl))) e) (N p (mem_append_left _ hp)).1,(N p (mem_append_left _ hp)).2⟩
 ·(refine aJ9 (getElem?_of_mem hp) ?_;intro j hj)
  rw [List.getElem?_set] at hj;by_cases e:k=j
  ·subst e;(replace hj:=(if_pos rfl ..)▸hj;replace hj:=(if_pos (List.getElem?_eq_some_iff.mp hk).1 ..)▸hj)
   clear hp;clear hp;obtain rfl:=Option.some.inj hj;exact ⟨ho,hD.2⟩
  ·replace hj:=(if_neg e ..)▸hj;have hm:=mem_append_right hw (mem_of_getElem? hj);refine ⟨hb.extBut _ _ (fun e'=>e ?_) (N p hm).1,(N p hm).2⟩;have h1:(nw.map (·.1))[k]?=some D:=by (refine rwg (getElem?_map ..) ?_;refine rwg (hk ..) ?_);rfl
   have h2:(nw.map (·.1))[j]?=some D:=by (refine rwg (getElem?_map ..) ?_;refine rwg (hj ..) ?_);exact congrArg some e'
   exact (List.getElem?_inj (List.getElem?_eq_some_iff.mp h1).1 nd.2.1).mp (h1.trans h2.symm)
theorem Pcs.at {n:Nat} {ao:AO} {a:Addr} (P:Pcs V σ m hw nw) (N:News V.h₀ V.L h (hw++nw)) (ha:(nw.map (·.1))[n]?=some a) (hs:σ.obj[n]?=some ao):∃ o,nw[n]?=some (a,o)∧h.get? a=some o∧ao.Is V.β (nw.map (·.1)) o:=by
 rw [getElem?_map] at ha;refine hide fun G_ k_=>?_;(refine aB9 ha ?_;intro no0 hp eo1;obtain ⟨b,o⟩:=no0;subst eo1)
 refine k_ ?_;exact (aM1 (o) (hp) ((N _ (mem_append_right _ (mem_of_getElem? hp))).1) (P.ob n ao b o hs hp))
end
noncomputable abbrev GB (g:Array GenState):={g':Array GenState // AllBare g→AllBare g'}
noncomputable abbrev GB.same (g:Array GenState):GB g:=⟨g,id⟩
noncomputable abbrev GB.then {g:Array GenState} (a:GB g) (b:GB a.1):GB g:=⟨b.1,fun x=>b.2 (a.2 x)⟩
noncomputable abbrev Res (V:Vw) (m:Str→Option Value) (ρ:List Addr) (s:Shared) (K:AV→St→Prop) (Q:Value→Shared→Prop):Prop :=
 ∀ (a:AV) (σ':St) (v:Value) (r:List Addr) (h':Heap) (tk':Nat) (g':GB s.gens),Rel V m (ρ++r) σ' h'→a.Is V.β (ρ++r) v→K a σ'→Q v ⟨h',g'.1,s.drawn,tk',s.os⟩
noncomputable abbrev ResB (V:Vw) (m:Str→Option Value) (ρ:List Addr) (s:Shared) (K:AV→St→Prop) (Q:Bool→Shared→Prop):Prop :=
 ∀ (c:Bool) (σ':St) (r:List Addr) (h':Heap) (tk':Nat) (g':GB s.gens),Rel V m (ρ++r) σ' h'→K (.bool c) σ'→Q c ⟨h',g'.1,s.drawn,tk',s.os⟩
section
variable {V:Vw} {m:Str→Option Value} {σ:St} {ρ:List Addr} {s:Shared} {K:AV→St→Prop} {Q:Value→Shared→Prop} {QB:Bool→Shared→Prop}
theorem Res.same (hQ:Res V m ρ s K Q) (R:Rel V m ρ σ s.heap) {a:AV} {v:Value} (hv:a.Is V.β ρ v) (hK:K a σ) (tk:Nat):Q v ⟨s.heap,s.gens,s.drawn,tk,s.os⟩ :=
 hQ a σ v [] s.heap tk (.same _) R.toks (hv.more []) hK
theorem Res.step (hQ:Res V m ρ s K Q) (r:List Addr) (h':Heap) (tk':Nat) (g':GB s.gens):Res V m (ρ++r) ⟨h',g'.1,s.drawn,tk',s.os⟩ K Q :=
 fun a σ' v r2 h2 tk2 g2 R2 i2 k2=>hQ a σ' v (r++r2) h2 tk2 (g'.then g2) (append_assoc ..▸R2) (append_assoc ..▸i2) k2
theorem ResB.step (hQ:ResB V m ρ s K QB) (r:List Addr) (h':Heap) (tk':Nat) (g':GB s.gens):ResB V m (ρ++r) ⟨h',g'.1,s.drawn,tk',s.os⟩ K QB :=
 fun a σ' r2 h2 tk2 g2 R2 k2=>hQ a σ' (r++r2) h2 tk2 (g'.then g2) (append_assoc ..▸R2) k2
theorem ResB.same (hQ:ResB V m ρ s K QB) (R:Rel V m ρ σ s.heap) {c:Bool} (hK:K (.bool c) σ) (tk:Nat):QB c ⟨s.heap,s.gens,s.drawn,tk,s.os⟩:=hQ c σ [] s.heap tk (.same _) R.toks hK
end
theorem bC7 {α:Type} {A:Around} {d u:Nat} {outer:List Env} {t:Sem α} {M:Model} {Q:α→Shared→Prop} {E:Value→Shared→Prop} {s:Shared}
  (h:wpAny M (cA d u outer) t Q E s) (h1:A.handled=none) (h2:A.depth≤d) (h3:A.frames=some outer) (h4:A.units≤u):wpAny M A t Q E s:=by
 intro Γ p hΓ;exact h Γ p ⟨hΓ.1.trans h1,le_trans hΓ.2.1 h2,fun l hl=>hΓ.2.2.1 l (by refine rwg (h3 ..) ?_;exact hl),(fun g hg=>nomatch hg),le_trans hΓ.2.2.2.2 h4⟩
noncomputable def keeps (M:Model) (v:Value) (h:Heap):Prop:=∃ k,(k=Keeper.frame∨k=Keeper.machine∨k=Keeper.boundFrame)∧Looks M h (keeperOf v) k
noncomputable def aR2 (M:Model) (h₀:Heap) (v:Value):Prop:=∀ h,(∀ b o,h₀.get? b=some o→h.get? b=some o)→keeps M v h
noncomputable def Vw.Over (V:Vw) (W:Wd→List (Addr × Obj)→Prop):Prop:=∀ wd l,V.W wd l→∃ pre l0,l=pre++l0∧W wd l0∧∀ wd' l0',W wd' l0'→V.W wd' (pre++l0')
theorem Vw.Over.plus {V:Vw} {W:Wd→List (Addr × Obj)→Prop} (h:V.Over W) (hx:List (Addr × Obj)):(V.plus hx).Over W:=by
 rintro wd l ⟨l0,rfl,hW⟩;(refine aD1 (h wd l0 hW) ?_;intro pre l1 eo0 h1 h2;clear hW;subst eo0)
 exact ⟨hx++pre,l1,(append_assoc ..).symm,h1,fun wd' l' h'=>(aA0 (pre++l') (append_assoc ..) (h2 wd' l' h'))⟩
noncomputable abbrev GOk.globT (G:Gx) (prog:Program) (w:World) (A:Around) (h₀:Heap) (β:List Addr):Prop:=∀ (env:Env) (x:Str) (v:Value) (s:Shared) (L:Addr) (m:Str→Option Value) (Q:Value→Shared→Prop) (E:Value→Shared→Prop) (pos:Pos),env.globals=mainGlobals→env.builtins=builtinsNs→env.scope.kind=.function→G.glob x=some v→env.scope.names.lookup x=some .globalImplicit→(x==ofString "__debug__")=false→Fr h₀ L s.heap m→Q v s→wpAny (model prog w) A (eval (.Name x pos) env) Q E s
noncomputable abbrev GOk.baseT (G:Gx) (prog:Program) (w:World) (A:Around) (h₀:Heap) (β:List Addr):Prop:=∀ (n:Nat) (ao:AO),G.base[n]?=some ao→∃ a o,β[n]?=some a∧h₀.get? a=some o∧ao.Is β [] o
noncomputable abbrev GOk.callT (G:Gx) (prog:Program) (w:World) (A:Around) (h₀:Heap) (β:List Addr):Prop:=∀ (V:Vw) (m:Str→Option Value) (g:Value) (as:List AV) (σ:St) (K:AV→St→Prop) (vs:List Value) (ρ:List Addr) (s:Shared) (Q:Value→Shared→Prop) (E:Value→Shared→Prop),V.h₀=h₀→V.β=β→V.Over G.W→Rel V m ρ σ s.heap→AllIs V.β ρ as vs→G.call g as σ K→Res V m ρ s K Q→wpAny (model prog w) A (call g vs) Q E s
noncomputable abbrev GOk.methT (G:Gx) (prog:Program) (w:World) (A:Around) (h₀:Heap) (β:List Addr):Prop:=∀ (nm:Str) (id:String),G.meth nm=some id→∀ (x:Str) (t:Tok) (s:Shared) (pl:Sem Bool) (Q:Value × List Value→Shared→Prop) (E:Value→Shared→Prop),Q (.builtin id,[.str x t]) s→wpAny (model prog w) A (getMethod (.str x t) nm pl) Q E s
noncomputable abbrev GOk.vmethT (G:Gx) (prog:Program) (w:World) (A:Around) (h₀:Heap) (β:List Addr):Prop:=∀ (V:Vw) (m:Str→Option Value) (σ:St) (a:Addr) (nm:Str) (g:Addr) (ρ:List Addr) (s:Shared) (pl:Sem Bool) (Q:Value × List Value→Shared→Prop) (E:Value→Shared→Prop),V.h₀=h₀→V.Over G.W→Rel V m ρ σ s.heap→G.vmeth σ.wd a nm=some g→(aR2 (model prog w) h₀ (.ref g)→Q (.ref g,[.ref a]) s)→wpAny (model prog w) A (getMethod (.ref a) nm pl) Q E s
noncomputable abbrev GOk.fzT (G:Gx) (prog:Program) (w:World) (A:Around) (h₀:Heap) (β:List Addr):Prop:=∀ (wd:Wd) (l:List (Addr × Obj)) (a:Addr) (ao:AO),G.W wd l→wd.fz a=some ao→∃ o,(a,o)∈l∧∀ β ρ,ao.Is β ρ o
noncomputable abbrev GOk.frzT (G:Gx) (prog:Program) (w:World) (A:Around) (h₀:Heap) (β:List Addr):Prop:=∀ (wd:Wd) (l:List (Addr × Obj)) (a:Addr) (o:Obj) (ao:AO),G.W wd l→(∀ β ρ,ao.Is β ρ o)→G.W (wd.add a ao) ((a,o)::l)
structure GOk (G:Gx) (prog:Program) (w:World) (A:Around) (h₀:Heap) (β:List Addr):Prop where
 hh:A.handled=none
 hu:A.units + 64 < cLine
 ar:A.depth≤330∧A.units≤430∧∃ outer,A.frames=some outer
 glob:GOk.globT G prog w A h₀ β
 base:GOk.baseT G prog w A h₀ β
 tab:∀ (a:Addr) (ao:AO),G.tab a=some ao→∃ o,h₀.get? a=some o∧ao.Is β [] o
 call:GOk.callT G prog w A h₀ β
 fn:∀ g:Value,G.fn g=true→aR2 (model prog w) h₀ g
 meth:GOk.methT G prog w A h₀ β
 vmeth:GOk.vmethT G prog w A h₀ β
 fz:GOk.fzT G prog w A h₀ β
 frz:GOk.frzT G prog w A h₀ β
structure GV (G:Gx) (prog:Program) (w:World) (A:Around) (V:Vw):Prop where
 g:GOk G prog w A V.h₀ V.β
 ov:V.Over G.W
noncomputable abbrev VOk.locT (G:Gx) (prog:Program) (w:World) (A:Around) (V:Vw) (env:Env):Prop:=∀ (x:Str) (v:Value) (s:Shared) (m:Str→Option Value) (wd:Wd) (hw nw:List (Addr × Obj)) (pos:Pos) (Q:Value→Shared→Prop) (E:Value→Shared→Prop),V.W wd hw→Fr V.h₀ V.L s.heap m→News V.h₀ V.L s.heap (hw++nw)→V.nm m x=some v→G.cs.names.lookup x=some .local→(x==ofString "__debug__")=false→Q v s→wpAny (model prog w) A (eval (.Name x pos) env) Q E s
noncomputable abbrev VOk.cellT (G:Gx) (prog:Program) (w:World) (A:Around) (V:Vw) (env:Env):Prop:=∀ (x:Str) (k:Nat),G.ce.lookup x=some k→(G.cs.names.lookup x=some .cell∨G.cs.names.lookup x=some .free)→∃ a,(x,k,a)∈V.cl∧env.cells.lookup x=some a
noncomputable abbrev VOk.exeT (G:Gx) (prog:Program) (w:World) (A:Around) (V:Vw) (env:Env):Prop:=∀ (hx:List (Addr × Obj)) (e:Expr) (m:Str→Option Value) (σ:St) (K:AV→St→Prop) (ρ:List Addr) (s:Shared) (Q:Value→Shared→Prop) (E:Value→Shared→Prop),Rel (V.plus hx) m ρ σ s.heap→G.exe e σ K→Res (V.plus hx) m ρ s K Q→wpAny (model prog w) A (eval e env) Q E s
structure VOk (G:Gx) (prog:Program) (w:World) (A:Around) (V:Vw) (env:Env):Prop where
 g:GOk G prog w A V.h₀ V.β
 ov:V.Over G.W
 scope:env.scope=G.cs
 kind:G.cs.kind=.function
 gl:env.globals=mainGlobals
 bl:env.builtins=builtinsNs
 loc:VOk.locT G prog w A V env
 cell:VOk.cellT G prog w A V env
 exe:VOk.exeT G prog w A V env
theorem VOk.gv {G:Gx} {prog:Program} {w:World} {A:Around} {V:Vw} {env:Env} (H:VOk G prog w A V env):GV G prog w A V:=⟨H.g,H.ov⟩
theorem VOk.plus {G:Gx} {prog:Program} {w:World} {A:Around} {V:Vw} {env:Env} (H:VOk G prog w A V env) (hx:List (Addr × Obj)):VOk G prog w A (V.plus hx) env where
 g:=H.g
 ov:=H.ov.plus hx
 scope:=H.scope
 kind:=H.kind
 gl:=H.gl
 bl:=H.bl
 loc:=fun x v s m wd hw nw pos Q E hW F N hv hl hd hq=>by
  refine hide fun G_ k_=>?_;(refine aA3 hW ?_;clear hW;intro l0 eo0 hW;subst eo0)
  refine k_ ?_;exact H.loc x v s m wd l0 nw pos Q E hW F (fun p hp=>N p (by refine rwg (append_assoc ..) ?_;exact mem_append_right _ hp)) hv hl hd hq
 cell:=H.cell
 exe:=fun hy e m σ K ρ s Q E=>by refine rwg (Vw.plus_plus ..) ?_;exact H.exe (hy++hx) e m σ K ρ s Q E
section
variable {G:Gx} {prog:Program} {w:World} {A:Around} {V:Vw} {m:Str→Option Value} {σ:St} {ρ:List Addr} {s:Shared} {Q:Value→Shared→Prop} {E:Value→Shared→Prop} {x y:AV} {v u:Value} {K:AV→St→Prop}
theorem obj_at (H:GV G prog w A V) {h:Heap} (R:Rel V m ρ σ h) {ao:AO} (hx:x.Is V.β ρ v) (hs:bO2 G σ x=some ao):∃ l o,v=.ref l∧h.get? l=some o∧ao.Is V.β ρ o:=by
 (refine R.el ?_;intro hw nw eo0 F N P;clear R;subst eo0)
 cases x with
 | obj n =>
  (refine aA3 hx ?_;clear hx;intro a ha eo0;subst eo0)
  (refine aI8 (P.at N ha hs) ?_;intro o _ ho i)
  exact ⟨a,o,rfl,ho,i⟩
 | par n =>
  (refine aA3 hx ?_;clear hx;intro a ha eo0;subst eo0)
  (refine aD1 (H.g.base n _ hs) ?_;intro a' o h1 h2 i)
  rw [ha] at h1;cases h1
  exact ⟨a,o,rfl,F.keep _ _ h2,by simpa using i.more (nw.map (·.1))⟩
 | val u =>
  obtain rfl:=hx;cases v with
  | ref a =>
   (refine aA3 (H.g.tab a _ hs) ?_;intro o h2 i)
   exact ⟨a,o,rfl,F.keep _ _ h2,by simpa using i.more (nw.map (·.1))⟩
  | _=>cases hs
 | fz a =>
  (refine aD1 (H.ov _ _ P.hW) ?_;intro pre l0 eo0 h1 _;clear P;subst eo0)
  (refine aA3 (H.g.fz _ _ a ao h1 hs) ?_;intro o h2 i)
  exact ⟨a,o,hx,(N _ (mem_append_left _ (mem_append_right _ h2))).1,i _ _⟩
 | _=>cases hs
theorem bS8 (H:GV G prog w A V) {h:Heap} (R:Rel V m ρ σ h) {ao:AO} {C:Prop} (hx:x.Is V.β ρ v) (hs:bO2 G σ x=some ao) (k:∀ l o,v=.ref l→h.get? l=some o→ao.Is V.β ρ o→C):C:=(obj_at H R hx hs).elim fun l h=>h.elim fun o h=>k l o h.1 h.2.1 h.2.2
theorem dA7 (H:GV G prog w A V) {h:Heap} (R:Rel V m ρ σ h) {xs:List AV} (hx:x.Is V.β ρ v) (hs:aB G σ x=some xs):∃ l vs,v=.ref l∧h.IsList l (toArray vs)∧AllIs V.β ρ xs vs:=by
 refine hide fun G_ k_=>?_;(refine aA1 hs ?_;intro ao h1 h2)
 (refine bS8 H R hx h1 ?_;intro l o eo0 ho i;clear hx;subst eo0)
 refine k_ ?_;clear h1;cases ao<;>cases h2
 ·refine hide fun G_ k_=>?_;(refine aG9 i ?_;clear i;intro vs n eo0 i;subst eo0)
  refine k_ ?_;exact ⟨l,vs,rfl,⟨_,ho,rfl,n,rfl⟩,i⟩
 ·refine hide fun G_ k_=>?_;obtain ⟨hc,vs,n,hd,i⟩:=i;refine k_ ?_;exact ⟨l,vs,rfl,⟨o,ho,hc,n,hd⟩,bR4 i⟩
theorem aE (H:GV G prog w A V) {h:Heap} (R:Rel V m ρ σ h) {xs:List AV} {C:Prop} (hx:x.Is V.β ρ v) (hs:aB G σ x=some xs) (k:∀ l vs,v=.ref l→h.IsList l (toArray vs)→AllIs V.β ρ xs vs→C):C:=(dA7 H R hx hs).elim fun l h=>h.elim fun vs h=>k l vs h.1 h.2.1 h.2.2
theorem tup_at (H:GV G prog w A V) {h:Heap} (R:Rel V m ρ σ h) {xs:List AV} (hx:x.Is V.β ρ v) (hs:aW G σ x=some xs):∃ l vs,v=.ref l∧IsTup h l (toArray vs)∧AllIs V.β ρ xs vs:=by
 refine hide fun G_ k_=>?_;(refine aA1 hs ?_;intro ao h1 h2)
 (refine bS8 H R hx h1 ?_;intro l o eo0 ho i;clear hx;subst eo0)
 refine k_ ?_;clear h1;cases ao<;>cases h2
 refine hide fun G_ k_=>?_;obtain ⟨c,vs,n,e,i⟩:=i;refine k_ ?_;exact ⟨l,vs,rfl,⟨o,ho,c,n,e⟩,i⟩
theorem bT5 (H:GV G prog w A V) {h:Heap} (R:Rel V m ρ σ h) {xs:List AV} {C:Prop} (hx:x.Is V.β ρ v) (hs:aW G σ x=some xs) (k:∀ l vs,v=.ref l→IsTup h l (toArray vs)→AllIs V.β ρ xs vs→C):C:=(tup_at H R hx hs).elim fun l h=>h.elim fun vs h=>k l vs h.1 h.2.1 h.2.2
theorem cT (H:GV G prog w A V) {h:Heap} (R:Rel V m ρ σ h) {r:Int × Int × Int} (hx:x.Is V.β ρ v) (hs:cF3 G σ x=some r):∃ l t u z,v=.ref l∧IsRange h l r.1 r.2.1 r.2.2 t u z:=by
 refine hide fun G_ k_=>?_;(refine aA1 hs ?_;intro ao h1 h2)
 (refine bS8 H R hx h1 ?_;intro l o eo0 ho i;clear hx;subst eo0)
 refine k_ ?_;clear h1;cases ao<;>cases h2
 refine hide fun G_ k_=>?_;(refine bK2 i ?_;clear i;intro t u z eo0;subst eo0)
 refine k_ ?_;exact ⟨l,t,u,z,rfl,ho⟩
theorem Rel.made {ao:AO} {l:Addr} {o:Obj} {h':Heap} {hw nw:List (Addr × Obj)} (P:Pcs V σ m hw nw) (N:News V.h₀ V.L s.heap (hw++nw)) (F':Fr V.h₀ V.L h' m) (N':News V.h₀ V.L h' ((l,o)::(hw++nw))) (hl:s.heap.objs.size≤l) (hi:ao.Is V.β (nw.map (·.1)) o)
  (hQ:Res V m (nw.map (·.1)) s K Q) (hK:K (.obj σ.obj.length) (σ.mk' ao)) (tk:Nat):Q (.ref l) ⟨h',s.gens,s.drawn,tk,s.os⟩ :=
 hQ _ _ _ [l] h' _ (.same _) (P.new F' N' (fun p hp=>ne_of_lt (lt_of_lt_of_le (Heap.lt_size (N p hp).1) hl)) hi) (bB (by (refine rwg (length_map ..) ?_;refine rwg (P.len ..) ?_;rfl))) hK
theorem cQ7 (H:GV G prog w A V) (R:Rel V m ρ σ s.heap) {K:Bool→Prop} {Q:Bool→Shared→Prop} (hx:x.Is V.β ρ v) (h:tru G σ x K) (hQ:∀ c tk,K c→Q c ⟨s.heap,s.gens,s.drawn,tk,s.os⟩) :
  wpAny (model prog w) A (truthy v) Q E s:=by
 refine aB7 h (fun c hc h=>?_) (fun u_ h=>?_)
 ·obtain rfl:=AV.bool_is hc hx;exact wpAny_truthy_bool (hQ _ _ h)
 refine aB7 h (fun c hc h=>?_) (fun u_ h=>?_)
 ·(refine AV.str_el hc hx ?_;intro t eo0;clear hx;subst eo0)
  exact SBL.truthy (by have:=h.1;omega) (hQ _ _ h.2)
 (refine aA h ?_;intro ys hs h)
 (refine aE H R hx hs ?_;intro l vs eo0 hl i;clear hx;subst eo0)
 refine wpAny_truthy_list hl (by have:=i.length;have:=h.1;refine rwg (size_toArray ..) ?_;omega) ?_;have e:(toArray vs).isEmpty=ys.isEmpty:=by
  refine rwg (List.isEmpty_toArray ..) ?_;clear hl hs h;cases i<;>rfl
 refine rwg (e ..) ?_;exact hQ _ _ h.2
theorem cW7 {op:Operator} {i j:Int} {t1 t2:Tok} {K:Int→Prop} (h:ibin op i j K) (hQ:∀ k t tk,K k→Q (.int k t) ⟨s.heap,s.gens,s.drawn,tk,s.os⟩):wpAny (model prog w) A (binaryOp op (.int i t1) (.int j t2)) Q E s:=by
 cases op with
 | Add=>exact add_int (hQ _ _ _ h)
 | Sub=>exact sub_int (hQ _ _ _ h)
 | Mod=>exact mod_int' h.1 (hQ _ _ _ h.2)
 | FloorDiv=>exact floordiv_int h.1.1 (hQ _ _ _ h.2) (.inl h.1.2)
 | BitAnd=>exact and_int (hQ _ _ _ h)
 | Pow=>exact pow_int_small h.1.1 h.1.2.1 h.1.2.2 (hQ _ _ _ h.2)
 | _=>exact h.elim
theorem bin_ok (H:GV G prog w A V) {op:Operator} (R:Rel V m ρ σ s.heap) (hx:x.Is V.β ρ v) (hy:y.Is V.β ρ u) (h:bin G op x y σ K) (hQ:Res V m ρ s K Q) :
  wpAny (model prog w) A (binaryOp op v u) Q E s:=by
 refine aB7 h (fun i hi h=>?_) (fun u_ h=>?_)
 ·(refine aA h ?_;intro j hj h)
  (refine AV.int_el hi hx ?_;intro t1 eo0;clear hx;subst eo0)
  (refine AV.int_el hj hy ?_;intro t2 eo0;clear hy;subst eo0)
  exact cW7 h fun k t tk hk=>hQ.same R (aJ6 _) hk tk
 (refine aB5 h ?_;intro ho h)
 clear h;obtain rfl:op=.Add:=by clear h;cases op<;>first | rfl | cases ho
 refine aB7 h (fun i hi h=>?_) (fun u_ h=>?_)
 ·(refine aA h ?_;intro j hj h)
  (refine AV.str_el hi hx ?_;intro t1 eo0;clear hx;subst eo0)
  (refine AV.str_el hj hy ?_;intro t2 eo0;clear hy;subst eo0)
  exact add_str (fun u_ u_=>hQ.same R (aF5 _) h.2 _) h.1
 (refine aA h ?_;intro as ha h)
 (refine aA h ?_;intro bs hb h)
 (refine aE H R hx ha ?_;intro l1 vs eo0 hl1 i1;clear hx;subst eo0)
 (refine aE H R hy hb ?_;intro l2 ws eo0 hl2 i2;clear hy;subst eo0)
 (refine R.el ?_;intro hw nw eo0 F N P;subst eo0)
 refine add_arrays F N hl1 hl2 (fun h' F' N'=>Rel.made (ao:=.list (as++bs)) P N F' N' (le_refl _) ⟨vs++ws,0,by simp,i1.append i2⟩ hQ (aJ h.2) _) ?_;(refine rwg (size_toArray ..) ?_;refine rwg (size_toArray ..) ?_;refine rwb (i1.length ..) ?_;refine rwb (i2.length ..) ?_);exact h.1
theorem cU1 {op:CmpOp} {i j:Int} {t1 t2:Tok} {c:Bool} (h:icmp op i j=some c) (hQ:Q (.bool c) s):wpAny (model prog w) A (compareOp op (.int i t1) (.int j t2)) Q E s:=by
 cases op with
 | Eq=>cases h;exact eq_int hQ
 | NotEq=>cases h;exact ne_int hQ
 | Lt=>cases h;exact lt_int hQ
 | LtE=>cases h;exact le_int hQ
 | Gt=>cases h;exact gt_int hQ
 | GtE=>cases h;exact ge_int hQ
 | _=>cases h
theorem dB1 {op:CmpOp} {i j:Str} {t1 t2:Tok} {c:Bool} (h:scmp op i j=some c) (hQ:Q (.bool c) s):wpAny (model prog w) A (compareOp op (.str i t1) (.str j t2)) Q E s:=by
 cases op with
 | Eq=>cases h;exact eq_str hQ
 | NotEq=>cases h;exact ne_str hQ
 | In=>cases h;exact SB.contains hQ
 | NotIn=>cases h;exact SB.notContains hQ
 | Gt=>cases h;exact P.gt_str hQ
 | _=>cases h
theorem bnot {c:Bool}:(c==true)=c:=by cases c<;>rfl
theorem bW4 {c:Bool}:(c==false)=!c:=by cases c<;>rfl
theorem is_gen {op:CmpOp} {c d:Bool} (hc:isOp op=some c) (he:isSame v u=pure d) (hQ:Q (.bool (d==c)) s):wpAny (model prog w) A (compareOp op v u) Q E s:=by
 cases op<;>cases hc
 ·rw [bnot] at hQ;refine (?_:wpAny _ A (do return Value.bool (← isSame v u)) Q E s);refine rwg (he ..) ?_;exact wpAny_bind (wpAny_pure (wpAny_pure hQ))
 ·rw [bW4] at hQ;refine (?_:wpAny _ A (do return Value.bool (!(← isSame v u))) Q E s);refine rwg (he ..) ?_;exact wpAny_bind (wpAny_pure (wpAny_pure hQ))
theorem cP4 (a:Addr):isSame (.ref a) (.ref a)=pure true:=if_pos (beq_self_eq_true a)
theorem cV2 {β:List Addr} {p:Bool × Nat} (h:x.ref2=some p) (hx:x.Is β ρ v):∃ a,(if p.1=true then ρ[p.2]? else β[p.2]?)=some a∧v=.ref a:=by
 cases x with
 | obj i=>obtain rfl:=Option.some.inj h;exact hx
 | par i=>obtain rfl:=Option.some.inj h;exact hx
 | _=>cases h
theorem bM5 {β:List Addr} {p:Bool × Nat} {C:Prop} (h:x.ref2=some p) (hx:x.Is β ρ v) (k:∀ a,(if p.1=true then ρ[p.2]? else β[p.2]?)=some a→v=.ref a→C):C:=(cV2 h hx).elim fun a h=>k a h.1 h.2
theorem cZ0 {β:List Addr} {c:Bool} (h:cY1 x y=some c) (hx:x.Is β ρ v) (hy:y.Is β ρ u):isSame v u=pure c:=by
 unfold cY1 at h;cases hp:x.ref2 with
 | none =>
  rw [hp] at h;(refine aA1 h ?_;intro q hq h)
  (refine aB9 h ?_;intro s hs eo0;clear h;subst eo0)
  (refine bM5 hq hy ?_;intro a _ eo0;clear hy;subst eo0)
  (refine AV.str_el hs hx ?_;intro t eo0;clear hx;subst eo0)
  rfl
 | some p =>
  rw [hp] at h;(refine bM5 hp hx ?_;intro a h1 eo0;clear hx;subst eo0)
  cases hq:y.ref2 with
  | none =>
   rw [hq] at h;(refine aB9 h ?_;intro s hs eo0;subst eo0)
   (refine AV.str_el hs hy ?_;intro t eo0;clear hy;subst eo0)
   rfl
  | some q =>
   rw [hq] at h;(refine bM5 hq hy ?_;intro b h2 eo0;clear hy;subst eo0)
   have h:(match p.1==q.1 && p.2==q.2 with | true=>some true | false=>none)=some c:=h;cases hc:p.1==q.1 && p.2==q.2 with
   | false=>rw [hc] at h;cases h
   | true =>
    rw [hc] at h;cases h
    rw [Bool.and_eq_true] at hc;rw [eq_of_beq hc.1,eq_of_beq hc.2,h2] at h1;obtain rfl:=Option.some.inj h1;exact cP4 _
set_option tactic.hygienic true in
theorem aS {G:Gx} {σ:St} {n:Nat} {a:AV} {t:Tr} (h:aS1 G σ (n + 1) a=some t):(∃ x,a.bool?=some x∧t=.b x)∨(∃ x,a.str?=some x∧t=.s x)∨∃ xs ts,aB G σ a=some xs∧aD6 (aS1 G σ n) xs=some ts∧t=.l ts:=by
 unfold aS1 at h;split at h
 ·rename_i x hx;obtain rfl:=Option.some.inj h;exact .inl (aA0 (x) (hx) (rfl))
 ·split at h
  ·rename_i x hx;obtain rfl:=Option.some.inj h;exact .inr (.inl (aA0 (x) (hx) (rfl)))
  ·refine hide fun G_ k_=>?_;(refine aA1 h ?_;intro xs h1 h)
   (refine aB9 h ?_;intro ts h2 eo0;clear h;clear h;subst eo0)
   refine k_ ?_;exact .inr (.inr ⟨xs,ts,h1,h2,rfl⟩)
theorem bT4 {B:Around} {β:List Addr} {f:AV→Option Tr} (ih:∀ {x y:AV} {t:Tr} {v u:Value},f x=some t→f y=some t→x.Is β ρ v→y.Is β ρ u→SeqAt.EqAt B s v u true) {as:List AV} {vs:List Value} (i1:AllIs β ρ as vs) :
  ∀ {bs:List AV} {ts:List Tr} {ws:List Value},aD6 f as=some ts→aD6 f bs=some ts→AllIs β ρ bs ws→vs.length=ws.length∧∀ (j:Nat) (v u:Value),vs[j]?=some v→ws[j]?=some u→SeqAt.EqAt B s v u true:=by
 induction i1 with
 | nil =>
  intro bs ts ws h1 h2 i2;cases h1
  cases i2 with
  | nil=>exact ⟨rfl,fun j v u h=>by simp at h⟩
  | cons a r =>
   (refine aA1 h2 ?_;intro x _ h2)
   (refine aB9 h2 ?_;intro _ _ h2)
   cases h2
 | cons a r ihr =>
  intro bs ts ws h1 h2 i2;refine hide fun G_ k_=>?_;(refine aA1 h1 ?_;intro x hx h1)
  (refine aB9 h1 ?_;intro xs hxs eo0;clear h1;clear h1;subst eo0)
  refine k_ ?_;clear k_;cases i2 with
  | nil=>cases h2
  | cons a2 r2 =>
   refine hide fun G_ k_=>?_;(refine aA1 h2 ?_;intro y hy h2)
   (refine aB9 h2 ?_;intro ys hys h2)
   cases h2
   (refine aE8 (ihr hxs hys r2) ?_;intro h3 h4)
   refine k_ ?_;refine ⟨by (refine rwg (length_cons ..) ?_;refine rwg (length_cons ..) ?_;refine rwg (h3 ..) ?_;rfl),fun j v u hv hu=>?_⟩;cases j with
   | zero=>obtain rfl:=Option.some.inj hv;cases hu;exact ih hx hy a a2
   | succ j=>exact h4 j v u hv hu
theorem cD7 (H:GV G prog w A V) (R:Rel V m ρ σ s.heap):∀ (n:Nat) (B:Around),B.units + n < cLine→∀ {x y:AV} {t:Tr} {v u:Value},aS1 G σ n x=some t→aS1 G σ n y=some t→x.Is V.β ρ v→y.Is V.β ρ u→SeqAt.EqAt B s v u true
 | 0,_,_,_,_,_,_,_,h,_,_,_=>nomatch h
 | n + 1,B,hB,x,y,t,v,u,h1,h2,i1,i2=>by
  have nb:∀ {a:AV} {x:Bool},a.bool?=some x→a=.bool x:=fun {a x} h=>by cases a<;>cases h;rfl
  rcases aS h1 with ⟨a,ha,rfl⟩ | ⟨a,ha,rfl⟩ | ⟨xs,ts,ha,hts,rfl⟩
  ·rcases aS h2 with ⟨b,hb,e⟩ | ⟨b,hb,e⟩ | ⟨ys,us,hb,hus,e⟩<;>cases e
   obtain rfl:=AV.bool_is ha i1;obtain rfl:=AV.bool_is hb i2;exact SeqAt.EqAt.same _
  ·rcases aS h2 with ⟨b,hb,e⟩ | ⟨b,hb,e⟩ | ⟨ys,us,hb,hus,e⟩<;>cases e
   (refine AV.str_el ha i1 ?_;intro t1 eo0;clear i1;subst eo0)
   (refine AV.str_el hb i2 ?_;intro t2 eo0;clear i2;subst eo0)
   have:=SeqAt.EqAt.str_str (A:=B) (s:=s) a t1 a t2;rwa [beq_self_eq_true] at this
  ·rcases aS h2 with ⟨b,hb,e⟩ | ⟨b,hb,e⟩ | ⟨ys,us,hb,hus,e⟩<;>cases e
   (refine aE H R i1 ha ?_;intro l1 vs eo0 hl1 j1;clear i1;subst eo0)
   (refine aE H R i2 hb ?_;intro l2 ws eo0 hl2 j2;clear i2;subst eo0)
   (refine aE8 (bT4 (B:=B.in1) (fun {_ _ _ _ _} a b c d=>cD7 H R n B.in1 (by refine rwg (units_in1 ..) ?_;(clear ha hts h1 h2 hb hus a b;lia)) a b c d) j1 hts hus j2) ?_;intro h3 h4)
   by_cases hl:l1=l2
   ·clear hl2;subst hl;exact SeqAt.EqAt.same _
   refine SeqAt.EqAt.of_refs hl ?_;have:=SeqAt.RcAt.lists (A:=B) (e:=fun u_=>true) hl1 hl2 (by (refine rwg (size_toArray ..) ?_;refine rwg (size_toArray ..) ?_;refine rwg (h3 ..) ?_;rfl)) (by (clear ha hts h1 h2 hb hus h3 hl;lia)) fun j k1 k2=>h4 j _ _ (by simp) (by simp);rwa [all_eq_true.mpr fun u_ u_=>rfl] at this
theorem cI4 (H:GV G prog w A V) {op:CmpOp} {K:Bool→Prop} (R:Rel V m ρ σ s.heap) (hx:x.Is V.β ρ v) (hy:y.Is V.β ρ u) (h:lcmp G σ op x y K) (hQ:∀ c,K c→Q (.bool c) s):wpAny (model prog w) A (compareOp op v u) Q E s:=by
 refine aB7 h (fun c hc h=>?_) (fun u_ h=>?_)
 ·(refine aA h ?_;intro d hd h)
  exact is_gen hc (cZ0 hd hx hy) (hQ _ h)
 (refine aA h ?_;intro c hc h)
 refine aB7 h (fun a ha h=>?_) (fun u_ h=>?_)
 ·(refine aA h ?_;intro b hb h)
  obtain rfl:=AV.bool_is ha hx;obtain rfl:=AV.bool_is hb hy;cases op<;>cases hc
  ·rw [bnot] at h;exact eq_bool (hQ _ h)
  ·rw [bW4] at h;exact ne_bool (hQ _ h)
 (refine aA h ?_;intro as ha h)
 (refine aA h ?_;intro bs hb h)
 (refine aE H R hx ha ?_;intro l1 vs eo0 hl1 i1;subst eo0)
 (refine aE H R hy hb ?_;intro l2 ws eo0 hl2 i2;clear hy;subst eo0)
 refine aB7 h (fun ns hn h=>?_) (fun u_ h=>?_)
 ·(refine aA h ?_;intro ms hm h)
  cases op<;>cases hc
  ·rw [bnot] at h;exact ke_eq_ints hl1 hl2 (i1.ints hn) (i2.ints hm) H.g.hu (hQ _ h)
  ·rw [bW4] at h;exact ke_ne_ints hl1 hl2 (i1.ints hn) (i2.ints hm) H.g.hu (hQ _ h)
 ·have hu:A.units < cLine:=Nat.lt_of_le_of_lt (le_add_right _ _) H.g.hu;refine aH6 h (fun he h=>?_) (fun u_ h=>?_)
  ·rw [Bool.and_eq_true] at he;(refine aE8 he ?_;clear he;intro he eo0;clear h;subst eo0)
   obtain rfl:op=.Eq:=by clear h;cases op<;>first | rfl | cases hc
   clear hb h;obtain rfl:bs=[]:=by cases bs<;>first | rfl | cases he
   cases i2
   clear ha;cases i1 with
   | nil=>exact SeqAt.eq_listAt (e:=fun u_=>true) hl1 hl2 rfl hu (fun j h1=>absurd h1 (Nat.not_lt_zero _)) (hQ _ h)
   | cons a r=>exact SeqAt.eq_list_lengthsAt hl1 hl2 rfl hu (hQ _ h)
  ·obtain ⟨rfl,t,h1,h2,hKt⟩:=aL2 h;clear h;obtain rfl:op=.Eq:=by clear h;cases op<;>first | rfl | cases hc
   rcases aS h1 with ⟨a,he,_⟩ | ⟨a,he,_⟩ | ⟨xs,ts,he,hts,rfl⟩
   ·cases AV.bool_is he hx
   ·(refine AV.str_el he hx ?_;intro _ h9);cases h9
   rcases aS h2 with ⟨a,he2,e⟩ | ⟨a,he2,e⟩ | ⟨ys,us,he2,hus,e⟩<;>cases e
   rw [ha] at he;rw [hb] at he2;cases he
   obtain rfl:=Option.some.inj he2;(refine aE8 (bT4 (B:=A.in1) (fun {_ _ _ _ _} a b c d=>cD7 H R 3 A.in1 (by refine rwg (units_in1 ..) ?_;have:=H.g.hu;(clear ha hb hu hc h1 h2 hts he2 hus a b;lia)) a b c d) i1 hts hus i2) ?_;intro h3 h4)
   refine SeqAt.eq_listAt (e:=fun u_=>true) hl1 hl2 (by (refine rwg (size_toArray ..) ?_;refine rwg (size_toArray ..) ?_;refine rwg (h3 ..) ?_;rfl)) hu (fun j k1 k2=>h4 j _ _ (by simp) (by simp)) ?_;refine rwg (all_eq_true.mpr fun u_ u_=>rfl ..) ?_;exact hQ _ hKt
theorem cJ5 {op:CmpOp} {c b:Bool} (hc:inOp op=some c) (h1:Q (.bool b) s→wpAny (model prog w) A (compareOp .In v u) Q E s) (h2:Q (.bool !b) s→wpAny (model prog w) A (compareOp .NotIn v u) Q E s) (hQ:Q (.bool (b==c)) s):wpAny (model prog w) A (compareOp op v u) Q E s:=by
 cases op<;>cases hc
 ·exact h1 (bnot (c:=b)▸hQ)
 ·exact h2 (bW4 (c:=b)▸hQ)
theorem cR3 (H:GV G prog w A V) {op:CmpOp} {K:Bool→Prop} (R:Rel V m ρ σ s.heap) (hx:x.Is V.β ρ v) (hy:y.Is V.β ρ u) (h:cmp G σ op x y K) (hQ:∀ c,K c→Q (.bool c) s):wpAny (model prog w) A (compareOp op v u) Q E s:=by
 refine aB7 h (fun i hi h=>?_) (fun u_ h=>?_)
 ·(refine AV.int_el hi hx ?_;intro t1 eo0;clear hx;subst eo0)
  refine aB7 h (fun j hj h=>?_) (fun u_ h=>?_)
  ·(refine AV.int_el hj hy ?_;intro t2 eo0;clear hy;subst eo0)
   (refine aA h ?_;intro c hc h)
   exact cU1 hc (hQ _ h)
  ·(refine aA h ?_;intro c hc h)
   (refine aA h ?_;intro ys hs h)
   (refine aA h ?_;intro ns hn h)
   (refine aE H R hy hs ?_;intro l vs eo0 hl i;clear hy;subst eo0)
   exact cJ5 hc (in_list_ints hl (i.ints hn)) (notin_list_ints hl (i.ints hn)) (hQ _ h)
 refine aB7 h (fun i hi h=>?_) (fun u_ h=>?_)
 ·refine aB7 h (fun j hj h=>?_) (fun u_ h=>?_)
  ·(refine AV.str_el hi hx ?_;intro t1 eo0;clear hx;subst eo0)
   (refine AV.str_el hj hy ?_;intro t2 eo0;clear hy;subst eo0)
   (refine aA h ?_;intro c hc h)
   exact dB1 hc (hQ _ h)
  refine aB7 h (fun c hc h=>?_) (fun u_ h=>?_)
  ·(refine AV.str_el hi hx ?_;intro t1 eo0;clear hx;subst eo0)
   refine aB7 h (fun ys hs h=>?_) (fun u_ h=>?_)
   ·(refine aA h ?_;intro ns hn h)
    (refine aE H R hy hs ?_;intro l vs eo0 hl i;clear hy;subst eo0)
    exact cJ5 hc (in_list_strs hl (i.strs hn)) (notin_list_strs hl (i.strs hn)) (hQ _ h)
   ·(refine aA h ?_;intro ys hs h)
    (refine aA h ?_;intro ns hn h)
    (refine bT5 H R hy hs ?_;intro l vs eo0 hl i;clear hy;subst eo0)
    exact cJ5 hc (in_tuple_strs hl (i.strs hn)) (notin_tuple_strs hl (i.strs hn)) (hQ _ h)
  ·exact cI4 H R hx hy h hQ
 ·exact cI4 H R hx hy h hQ
end
section
variable {G:Gx} {prog:Program} {w:World} {A:Around} {V:Vw} {m:Str→Option Value} {env:Env} {σ:St} {ρ:List Addr} {s:Shared} {Q:Value→Shared→Prop} {E:Value→Shared→Prop} {x y:AV} {v u:Value} {K:AV→St→Prop}
theorem aI {b:Expr} (hb:aQ6 b=true) (o i:Value):subscripted b false o i=operate [o,i] (getItem o i):=by
 cases b<;>first | rfl | cases hb
theorem aN4 (value:Expr) (x:Str) (t:Tok) (r:Value):letTemporaryGo value (.str x t) r=pure ():=by
 cases value<;>rfl
theorem dB5 (H:GV G prog w A V) {a b:Expr} (hb:aQ6 b=true) {K:AV→Prop} (R:Rel V m ρ σ s.heap) (hx:x.Is V.β ρ v) (hy:y.Is V.β ρ u) (h:item G x y σ K) (hQ:∀ a v tk,K a→a.Is V.β ρ v→Q v ⟨s.heap,s.gens,s.drawn,tk,s.os⟩) :
  wpAny (model prog w) A (subscriptTail a b v u) Q E s:=by
 (refine aA h ?_;intro k hk h)
 (refine AV.int_el hk hy ?_;intro t2 eo0;clear hy;subst eo0)
 rcases aW0 h with ⟨i,hi,⟨h1,h2,h3⟩,h⟩ | ⟨_,h⟩
 ·(refine AV.str_el hi hx ?_;intro t1 eo0;clear hx;subst eo0)
  exact item_str (fitsSsize_of (N:=9223372036854775808) (by (clear hb hk hi h2;lia)) (by (clear hb hk hi h1;lia)) (Int.le_refl _)) h1 h2 (fun u_=>hQ _ _ _ h (aF5 _)) (aI hb _ _) (aN4 _ _ _)
 ·(refine aI8 (aH1 h) ?_;intro xs hs no0 h;obtain ⟨h1,h2,h3⟩:=no0)
  (refine aE H R hx hs ?_;intro l vs eo0 hl i;clear hx;subst eo0)
  (refine aA h ?_;intro c hc h)
  (refine aA3 (i.get hc) ?_;intro v' hv' i')
  rw [i.length] at h1 h2 h3 hv';by_cases hneg:k < 0
  ·rw [if_pos hneg] at hv';exact tail_any hl.typeIs slot_list_getitem.lookup (wpAny_getItem_list_neg hl hneg (by refine rwg (size_toArray ..) ?_;(clear hb hk hs h3 h2 hc hv' hneg;lia)) (by (clear hb hk hs h2 hc hv' hneg;lia)) (x:=v') (by (refine rwg (size_toArray ..) ?_;refine rwg (getElem?_toArray ..) ?_);exact hv') (hQ _ _ s.toks h i')) (aI hb _ _)
  ·rw [if_neg hneg] at hv';exact tail_any hl.typeIs slot_list_getitem.lookup (wpAny_getItem_list hl (by (clear hb hk hs h3 h2 h1 hc hv';lia)) (by (clear hb hk hs h1 hc hv' hneg;lia)) (by refine rwg (getElem?_toArray ..) ?_;exact hv') (hQ _ _ s.toks h i')) (aI hb _ _)
theorem aG2 {e:Expr} (h:aG5 e=true) (rest:List Expr) (env:Env):starEach (e::rest) env=(false,eval e env)::starEach rest env:=by
 cases e<;>first | rfl | cases h
theorem cC {f:Expr→St→(AV→St→Prop)→Prop}
  (hf:∀ (e:Expr) (σ:St) (K:AV→St→Prop) (ρ:List Addr) (s:Shared) (Q:Value→Shared→Prop) (E:Value→Shared→Prop),Rel V m ρ σ s.heap→f e σ K→Res V m ρ s K Q→wpAny (model prog w) A (eval e env) Q E s) {pos:Pos} :
  ∀ (es:List Expr) (σ:St) (K:List AV→St→Prop) (ρ:List Addr) (s:Shared) (Q:List Value→Shared→Prop) (E:Value→Shared→Prop),Rel V m ρ σ s.heap→es.all aG5=true→evs f es σ K →
   (∀ (as:List AV) (σ':St) (vs:List Value) (r:List Addr) (h':Heap) (tk':Nat) (g':GB s.gens),Rel V m (ρ++r) σ' h'→AllIs V.β (ρ++r) as vs→K as σ'→Q vs ⟨h',g'.1,s.drawn,tk',s.os⟩) →
   wpAny (model prog w) A (spliced (backTo pos (starEach es env))) Q E s
 | [],σ,K,ρ,s,Q,E,R,_,h,hQ=>PyProof.Rows.args_nil (hQ [] σ [] [] s.heap s.toks (.same _) R.toks .nil (cast evs_0 h))
 | e::es,σ,K,ρ,s,Q,E,R,hp,h,hQ=>by
  (replace hp:=(all_cons ..)▸hp;replace hp:=(Bool.and_eq_true ..)▸hp)
  refine PyProof.Rows.args_cons (hf e σ _ ρ s _ E R (cast aU6 h) fun a σ1 v r h' tk' g1 R1 i1 h1=>?_) (aG2 hp.1 es env);refine cC hf es σ1 _ (ρ++r) ⟨h',g1.1,s.drawn,tk',s.os⟩ _ E R1 hp.2 h1 fun as σ2 vs r2 h2 tk2 g2 R2 i2 k2=>?_;rw [append_assoc] at R2 i2;exact hQ _ _ _ (r++r2) h2 tk2 (g1.then g2) R2 (.cons (append_assoc ..▸i1.more r2) i2) k2
theorem bZ2 {x:Str} (h:bB3 x=true):(x==ofString "__debug__")=false:=by
 unfold bB3 at h;cases e:x==ofString "__debug__"<;>rw [e] at h<;>first | rfl | cases h
theorem cF8 (H:VOk G prog w A V env) {n:Str} {h:Heap} (R:Rel V m ρ σ h) (hk:G.cs.names.lookup n=some .cell∨G.cs.names.lookup n=some .free) (ha:cD4 G σ n=some x):∃ c v,env.cells.lookup n=some c∧h.IsCell c (some v)∧x.Is V.β ρ v:=by
 refine hide fun G_ k_=>?_;(refine aA1 ha ?_;intro k hk1 ha)
 (refine aA1 ha ?_;intro ao hk2 ha)
 (refine aA3 (H.cell n k hk1 hk) ?_;intro c hc hl)
 (refine R.el ?_;intro hw nw eo0 F N P;clear R;subst eo0)
 (refine aI8 (P.at N (P.ce _ hc) hk2) ?_;intro o _ ho i)
 refine k_ ?_;clear hk2;cases ao<;>cases ha
 refine hide fun G_ k_=>?_;(refine aA3 i ?_;clear i;intro v hd hv)
 (refine aA3 (hv x rfl) ?_;intro v' eo0 i;clear hv;subst eo0)
 refine k_ ?_;exact ⟨c,v',hl,(aA0 (o) (ho) (hd)),i⟩
theorem bN7 (H:VOk G prog w A V env) {n:Str} {pos:Pos} {K:AV→Prop} (R:Rel V m ρ σ s.heap) (h:name G σ n K) (hQ:∀ a v,K a→a.Is V.β ρ v→Q v s):wpAny (model prog w) A (eval (.Name n pos) env) Q E s:=by
 refine hide fun G_ k_=>?_;(refine aB5 h ?_;intro hd h)
 have hd:=bZ2 hd;(refine aA h ?_;intro k hk h)
 refine k_ ?_;have hk':env.scope.kind=.function:=H.scope▸H.kind;have hn:env.kindOf n=some k:=by refine (?_:env.scope.names.lookup n=_);refine rwg (H.scope ..) ?_;exact hk
 cases k with
 | «local» =>
  refine hide fun G_ k_=>?_;(refine aA h ?_;intro a ha h)
  (refine R.el ?_;intro hw nw eo0 F N P;clear R;subst eo0)
  (refine aA3 (P.lo n a ha) ?_;intro v hv i)
  refine k_ ?_;exact H.loc n v s m σ.wd hw nw pos Q E P.hW F N hv hk hd (hQ a v h i)
 | cell =>
  refine hide fun G_ k_=>?_;(refine aA h ?_;intro a ha h)
  (refine aD1 (cF8 H R (.inl hk) ha) ?_;intro c v h1 h2 i)
  refine k_ ?_;exact wpAny_Name (wpAny_loadName_cell hk' hn h1 h2 (hQ a v h i)) hd
 | free =>
  refine hide fun G_ k_=>?_;(refine aB5 h ?_;intro hcd h)
  (refine aA h ?_;intro a ha h)
  (refine aD1 (cF8 H R (.inr hk) ha) ?_;intro c v h1 h2 i)
  refine k_ ?_;exact wpAny_Name (wpAny_loadName_free hk' hn h1 h2 (hQ a v h i) (by simpa using hcd)) hd
 | globalImplicit =>
  refine hide fun G_ k_=>?_;(refine aA h ?_;intro a ha h)
  (refine R.el ?_;intro hw nw eo0 F N P;clear R;subst eo0)
  refine k_ ?_;exact H.g.glob env n a s V.L m Q E pos H.gl H.bl hk' ha hn hd F (hQ (.val a) a h rfl)
 | _=>exact h.elim
theorem cR1 {c:Const} {k:Nat} {pos:Pos} {a:AV} (h:cst? c=some a) {β:List Addr} (hQ:∀ v tk,a.Is β ρ v→Q v ⟨s.heap,s.gens,s.drawn,tk,s.os⟩):wpAny (model prog w) A (eval (.Constant c k pos) env) Q E s:=by
 cases c with
 | int k=>cases h;exact wpAny_Constant_int (hQ _ _ (aJ6 _))
 | str k=>cases h;exact wpAny_Constant_str (hQ _ _ (aF5 _))
 | bool b=>cases h;exact wpAny_Constant_bool (hQ _ s.toks rfl)
 | none=>cases h;exact wpAny_Constant_none (hQ _ s.toks rfl)
 | _=>cases h
set_option tactic.hygienic true in
theorem cN7 (H:VOk G prog w A V env) {e:Expr} {a:AV} (h:pv G e σ=some a) (R:Rel V m ρ σ s.heap) (hQ:∀ v tk,a.Is V.β ρ v→Q v ⟨s.heap,s.gens,s.drawn,tk,s.os⟩):wpAny (model prog w) A (eval e env) Q E s:=by
 cases e with
 | Name n p =>
  have h:bU5 G σ n=some a:=h;unfold bU5 at h;split at h
  ·rename_i hd;rw [Bool.and_eq_true] at hd;refine bN7 H (K:=fun b=>b=a) R ?_ fun b v e i=>hQ v s.toks (e▸i);unfold name;(refine rwg (hd.1 ..) ?_;refine rwg (eq_of_beq hd.2 ..) ?_)
   refine (?_:aB4 (σ.loc.lookup n) _);refine rwg (h ..) ?_;rfl
  ·cases h
 | Constant c k p=>exact cR1 (a:=a) h hQ
 | _=>cases h
set_option tactic.hygienic true in
theorem bR5 {c:Bool} {x y z:AV} (h:cY4 c x y=some z) {β:List Addr} {v:Value} (hv:if c=true then x.Is β ρ v else y.Is β ρ v):z.Is β ρ v:=by
 unfold cY4 at h;split at h
 ·rename_i a ha;(refine aB9 h ?_;intro b hb eo0;clear h;subst eo0)
  cases c with
  | true=>(refine AV.str_el ha hv ?_;intro t eo0;clear hv;subst eo0);exact aF5 t
  | false=>(refine AV.str_el hb hv ?_;intro t eo0;clear hv;subst eo0);exact aF5 t
 ·(refine aA1 h ?_;intro a ha h)
  (refine aB9 h ?_;intro b hb eo0;clear h;subst eo0)
  clear h;cases c with
  | true=>(refine AV.int_el ha hv ?_;intro t eo0;clear hv;subst eo0);exact aJ6 t
  | false=>(refine AV.int_el hb hv ?_;intro t eo0;clear hv;subst eo0);exact aJ6 t
noncomputable def bL5 (G:Gx) (prog:Program) (w:World) (A:Around) (V:Vw) (env:Env) (n:Nat):Prop :=
 (∀ (e:Expr) (m:Str→Option Value) (σ:St) (K:AV→St→Prop) (ρ:List Addr) (s:Shared) (Q:Value→Shared→Prop) (E:Value→Shared→Prop),Rel V m ρ σ s.heap→ev n G false e σ K→Res V m ρ s K Q→wpAny (model prog w) A (eval e env) Q E s) ∧
 (∀ (e:Expr) (m:Str→Option Value) (σ:St) (K:AV→St→Prop) (ρ:List Addr) (s:Shared) (Q:Bool→Shared→Prop) (E:Value→Shared→Prop),Rel V m ρ σ s.heap→ev n G true e σ K→ResB V m ρ s K Q→wpAny (model prog w) A (PySem.isTrue e env (eval e env)) Q E s)
theorem aQ4:∀ (es:List Expr),es.all aG5=true→∀ (pos:Pos) (env:Env),((backTo pos (starEach es env)).any fun x=>x.1)=false
 | [],_,_,_=>rfl
 | e::es,h,pos,env=>by
  rw [all_cons,Bool.and_eq_true] at h;refine rwg (aG2 h.1 ..) ?_;exact aQ4 es h.2 pos env
theorem aD9 {M:Model} {v:Value} {h:Heap} (hv:keeperOf v=pure .machine):keeps M v h:=(aA0 (.machine) (.inr (.inl rfl)) (hv▸.now))
theorem cP3 {M:Model} {a:Addr} {o:Obj} {fd:FuncData} {h:Heap} (ho:h.get? a=some o) (hd:o.data=.func fd):keeps M (.ref a) h:=by
 obtain ⟨c,d,dt,sl⟩:=o;subst hd;exact (aA0 (.frame) (.inl rfl) ((Looks.ld (part:=none) ho).andThen .now))
theorem aG4 {n:Nat} (ih:bL5 G prog w A V env n) {f:Value} {first:List Value} {args:List Expr} {Ks:List AV→St→Prop} {pos:Pos} (R:Rel V m ρ σ s.heap) (hp:args.all aG5=true)
  (h:evs (ev n G false) args σ Ks) (fin:∀ (as:List AV) (σ':St) (vs:List Value) (r:List Addr) (h':Heap) (tk':Nat) (g':GB s.gens),Rel V m (ρ++r) σ' h'→AllIs V.β (ρ++r) as vs→Ks as σ'→keeps (model prog w) f h'∧wpAny (model prog w) A (call f (first++vs)) Q E ⟨h',g'.1,s.drawn,tk',s.os⟩) :
  wpAny (model prog w) A (callWith pos f first (backTo pos (starEach args env)) []) Q E s:=by
 refine callWith_of (P:=fun h=>keeps (model prog w) f h) (by refine rwg (aQ4 args hp pos env ..) ?_;rfl) (fun u_ p=>p) ?_;cases args with
 | nil=>exact PyProof.Rows.evalArgs_none (fin [] σ [] [] s.heap s.toks (.same _) R.toks .nil (cast evs_0 h))
 | cons e es =>
  have hp':=hp;rw [all_cons,Bool.and_eq_true] at hp';have:=cC (pos:=pos) (fun e=>ih.1 e m) (e::es) σ Ks ρ s (fun vs s'=>keeps (model prog w) f s'.heap∧wpAny (model prog w) A (call f (first++vs)) Q E s') E R hp h fin;rw [aG2 hp'.1 es env] at this ⊢;exact evalArgs_plain this
set_option tactic.hygienic true in
theorem aQ3 {o:Expr} {nm:Str} {apos pos:Pos} {args:List Expr} (h:aO4 o args apos pos=true):eval (.Call (.Attribute o nm apos) args [] pos) env=(do
   let ov ← eval o env
   standAt apos.atName
   let (f,first) ← holding [ov] (getMethod ov nm (do return (← importBound o env).getD true))
   callWith pos f first (backTo pos (starEach args env)) [])∧args.all aG5=true:=by
 unfold aO4 at h;rw [Bool.and_eq_true,Bool.and_eq_true,Bool.and_eq_true] at h;(refine aE8 h ?_;clear h;intro no0 hpos;obtain ⟨⟨ho,hp⟩,hl⟩:=no0)
 refine ⟨?_,hp⟩;have hform:methodCallForm (args.length + 0) (backTo pos (starEach args env)) []=true:=by
  unfold methodCallForm;have h1:((backTo pos (starEach args env)).all fun x=>!x.1)=true:=by
   refine rwg (List.all_eq_not_any_not ..) ?_;simp only [Bool.not_not]
   refine rwg (aQ4 args hp pos env ..) ?_;rfl
  refine rwg (h1 ..) ?_;simpa using hl
 have key:∀ whole:Sem Value,attributeBase o nm env whole=whole:=by
  intro whole;cases o<;>first | rfl | cases ho | skip
  rename_i g as ks p;cases as with
  | nil=>cases ho
  | cons=>clear ho;cases g<;>rfl
 have hm:∀ ov,methodCall o nm apos pos env ov (args.length + ([]:List Keyword).length) (backTo pos (starEach args env)) (backToKw pos (keywordEach [] env))=(do
   let (f,first) ← holding [ov] (getMethod ov nm (do return (← importBound o env).getD true))
   callWith pos f first (backTo pos (starEach args env)) []):=by
  intro ov;unfold methodCall;have e0:backToKw pos (keywordEach [] env)=[]:=rfl;refine rwg (e0 ..) ?_;refine (?_:(do
   let (f,first) ← holding [ov] (calleeOf (methodCallForm (args.length + 0) (backTo pos (starEach args env)) []) o env ov nm)
   let callPos ← methodCallPos (methodCallForm (args.length + 0) (backTo pos (starEach args env)) []) o env apos pos
   callWith callPos f first (backTo pos (starEach args env)) [])=_)
  refine rwg (hform ..) ?_;unfold methodCallPos calleeOf;refine rwg (hpos ..) ?_;rfl
 refine (?_:(do
  let ov ← attributeBase o nm env (eval o env)
  standAt apos.atName
  methodCall o nm apos pos env ov (args.length + ([]:List Keyword).length) (backTo pos (starEach args env)) (backToKw pos (keywordEach [] env)))=_)
 refine rwg (key ..) ?_
 congr 1
 funext ov
 congr 1
 funext _
 exact hm ov
theorem bP2 {n:Nat} (ih:bL5 G prog w A V env n) {e:Option Expr} (R:Rel V m ρ σ s.heap) (h:evo (ev n G false) e σ K) (hQ:Res V m ρ s K Q):wpAny (model prog w) A (evalPart e env) Q E s:=by
 cases e with
 | none=>exact evalPart_none_step (hQ.same R (a:=.none) rfl h s.toks)
 | some e=>exact evalPart_some_step (ih.1 _ _ _ _ _ _ _ _ R h hQ)
theorem bZ {β ρ:List Addr} {a:AV} {v:Value} {o:Option Int} (h:cL6 a=some o) (i:a.Is β ρ v):IsPart v o:=by
 unfold cL6 at h;split at h
 ·obtain rfl:=Option.some.inj h;obtain rfl:=i;exact .none
 ·(refine aB9 h ?_;intro k hk eo0;clear h;subst eo0)
  (refine AV.int_el hk i ?_;intro t eo0;clear i;subst eo0)
  exact .int _ _
theorem AllIs.pick {β ρ:List Addr} {as:List AV} {vs:List Value} (h:AllIs β ρ as vs):∀ is:List Nat,AllIs β ρ (is.filterMap fun i=>as[i]?) (is.filterMap fun i=>vs[i]?)
 | []=>.nil
 | i::is=>by
  (refine rwg (List.filterMap_cons ..) ?_;refine rwg (List.filterMap_cons ..) ?_)
  cases e:as[i]? with
  | none =>
   rw [List.getElem?_eq_none_iff,h.length,← List.getElem?_eq_none_iff] at e;refine rwg (e ..) ?_;exact h.pick is
  | some a =>
   refine hide fun G_ k_=>?_;(refine aA3 (h.get e) ?_;intro v hv hi)
   refine k_ ?_;refine rwg (hv ..) ?_;exact .cons hi (h.pick is)
theorem cS6 (H:GV G prog w A V) {base:Expr} {lower upper:Option Expr} {p:Pos} {lo up:AV} {l:Value} (R:Rel V m ρ σ s.heap) (hx:x.Is V.β ρ v) (hl:lo.Is V.β ρ l) (hu:up.Is V.β ρ u) (h:slc G base x lo up σ K) (hQ:Res V m ρ s K Q) :
  wpAny (model prog w) A (subscriptTail base (.Slice lower upper none p) v (.ref s.heap.objs.size)) Q E ⟨s.heap.push {cls:=.type "slice",data:=.fields #[l,u,.none]},s.gens,s.drawn,s.toks,s.os⟩:=by
 (refine aA h ?_;intro i hi h)
 (refine aA h ?_;intro j hj h)
 have pi:=bZ hi hl;have pj:=bZ hj hu;(refine R.el ?_;intro hw nw eo0 F N P;clear hl hu;subst eo0)
 refine aB7 h (fun a ha h=>?_) (fun u_ h=>?_)
 ·(refine AV.str_el ha hx ?_;intro t eo0;clear hx;subst eo0)
  have fin:∀ h' t' k,Fr V.h₀ V.L h' m→News V.h₀ V.L h' (hw++nw)→Q (.str (Txt.slice a i j) t') ⟨h',s.gens,s.drawn,k,s.os⟩:=fun h' t' k F' N'=>hQ _ σ _ [] h' k (.same _) (P.rel F' N').toks (aF5 t') h.2;clear hi;cases pi<;>cases pj
  ·exact slice_strN_nn F N fin rfl (aN4 _ _ _) h.1
  ·exact slice_strN_ns F N fin rfl (aN4 _ _ _) h.1
  ·exact slice_strN_sn F N fin rfl (aN4 _ _ _) h.1
  ·exact slice_strN_ss F N fin rfl (aN4 _ _ _) h.1
 ·(refine aA h ?_;intro xs hs h)
  (refine aE H R hx hs ?_;intro l' vs eo0 hl' i';clear hx;subst eo0)
  (refine aH8 (aL2 h) ?_;intro hb hsz h)
  refine slice_list F N hl' pi pj (fun h' F' N'=>Rel.made (ao:=.list (aF xs i j)) P N F' N' (le_succ _) ⟨aF vs i j,0,?_,?_⟩ hQ (aJ h) _) rfl (fun r=>by clear h;clear h;clear h;cases base<;>first | rfl | cases hb) (by (refine rwg (size_toArray ..) ?_;refine rwb (i'.length ..) ?_);exact hsz)
  ·unfold slicePick aF;simp only [size_toArray,getElem?_toArray]
  ·unfold aF;refine rwg (i'.length ..) ?_;exact i'.pick _
theorem aZ5 {h:Heap} {p:Nat × List AV} {C:Prop} (R:Rel V m ρ σ h) (hx:x.Is V.β ρ v) (hs:aS5 σ x=some p) (k:∀ hw nw D vs n,x=.obj p.1→v=.ref D→ρ=nw.map (·.1)→Fr V.h₀ V.L h m→News V.h₀ V.L h (hw++nw)→Pcs V σ m hw nw→nw[p.1]?=some (D,W.listOf (toArray vs) n)→h.get? D=some (W.listOf (toArray vs) n)→AllIs V.β ρ p.2 vs→C):C:=by
 cases x with
 | obj j =>
  (refine aA3 hx ?_;clear hx;intro a ha eo0;subst eo0)
  (refine aA1 hs ?_;intro xs hxs hs)
  cases hs
  (refine aA1 hxs ?_;intro ao hao hl)
  cases ao<;>cases hl
  (refine R.el ?_;intro hw nw eo0 F N P;clear R;subst eo0)
  obtain ⟨o,hn,ho,vs,n,rfl,i⟩:=P.at N ha hao;exact k hw nw a vs n rfl rfl rfl F N P hn ho i
 | _=>cases hs
theorem app_ok (R:Rel V m ρ σ s.heap) (hr:x.Is V.β ρ v) (hy:y.Is V.β ρ u) (h:app σ x y K) (hQ:Res V m ρ s K Q):wpAny (model prog w) A (call (.builtin "list.append") [v,u]) Q E s:=by
 refine hide fun G_ k_=>?_;obtain ⟨p,hp,hsz,h2⟩:=aU8 h;have h2:=aV4 h2;clear h;(refine aZ5 R hr hp ?_;intro hw nw D vs n eo0 eo1 eo2 F N P hn ho i;subst eo0;subst eo1;subst eo2)
 refine k_ ?_;have hN:=N _ (mem_append_right _ (mem_of_getElem? hn));refine append_at ho (fun h' hb ho'=>?_) (by (refine rwg (size_toArray ..) ?_;refine rwb (i.length ..) ?_);exact hsz);have hi:(AO.list (p.2++[y])).Is V.β (nw.map (·.1)) {cls:=.type "list",data:=.seq (vs.toArray.push u) (n + 1)}:=⟨vs++[u],n + 1,by simp,i.append (.cons hy .nil)⟩;exact hQ .none _ _ [] h' _ (.same _) (map_set hn▸((P.set hn hi).rel (F.change hb hN.2.1 hN.2.2) (News.set N P.nd hn hb ho'))).toks rfl h2
end
structure Iter (prog:Program) (w:World) (A:Around) (X:Type) (n:Nat) (P:X→Nat→Value→Prop) (Sr:X→Heap→Prop) (It:Addr→Nat→Heap→Prop):Prop where
 item:∀ (x:X) (I:Addr) (i:Nat) (s:Shared) (Q:Option Value→Shared→Prop) (E:Value→Shared→Prop),i < n→It I i s.heap→Sr x s.heap →
  (∀ v h' tk,P x i v→It I (i + 1) h'→(∀ b o,b≠I→s.heap.get? b=some o→h'.get? b=some o)→Q (some v) {s with heap:=h',toks:=tk})→wpAny (model prog w) A (pyNext (.ref I)) Q E s
 done:∀ (x:X) (I:Addr) (s:Shared) (Q:Option Value→Shared→Prop) (E:Value→Shared→Prop),It I n s.heap→Sr x s.heap →
  (∀ h' tk,(∀ b o,b≠I→s.heap.get? b=some o→h'.get? b=some o)→Q none {s with heap:=h',toks:=tk})→wpAny (model prog w) A (pyNext (.ref I)) Q E s
 keep:∀ (I:Addr) (i:Nat) (h h':Heap),It I i h→(∀ o,h.get? I=some o→h'.get? I=some o)→It I i h'
 obj:∀ (I:Addr) (i:Nat) (h:Heap),It I i h→∃ o,h.get? I=some o
 self:∀ (I:Addr) (i:Nat) (s:Shared) (Q:Value→Shared→Prop) (E:Value→Shared→Prop),It I i s.heap→Q (.ref I) s→wpAny (model prog w) A (pyIter (.ref I)) Q E s
 go:∀ (I:Addr) (i:Nat) (t:Expr) (v:Value) (s:Shared) (Q:Unit→Shared→Prop) (E:Value→Shared→Prop),It I i s.heap→Q () s→wpAny (model prog w) A (letOwnedTupleGo t (.ref I) v) Q E s
section
variable {prog:Program} {w:World} {A:Around} {s:Shared} {E:Value→Shared→Prop}
theorem bE {I:Addr} {o:Obj} {t:Expr} {v:Value} {T:String} {Q:Unit→Shared→Prop} (ho:s.heap.get? I=some o) (hc:o.cls=.type T) (hT:T="list_iterator"∨T="tuple_iterator"∨T="range_iterator") (hq:Q () s):wpAny (model prog w) A (letOwnedTupleGo t (.ref I) v) Q E s:=by
 obtain ⟨c,d,dt,sl⟩:=o;subst hc;have go:∀ r,wpAny (model prog w) A (do
   let o ← load I
   match o.cls,o.data with
   | .type n,.fields vs=>if ["enumerate","zip","dict_itemiterator","dict_reverseitemiterator","odict_iterator","itertools.zip_longest","itertools.pairwise"].contains n && vs[0]?==some (rawInt r) then do
     rule "for.unpacks-the-owned-tuple"
     updateField I 0 .none
   | _,_=>pure ()) Q E s:=by
  intro r;refine wpAny_bind (wpAny_load ho ?_);clear ho;cases dt with
  | fields vs =>
   have hno:((["enumerate","zip","dict_itemiterator","dict_reverseitemiterator","odict_iterator","itertools.zip_longest","itertools.pairwise"].contains T && vs[0]?==some (rawInt r))=true)→False:=by rcases hT with rfl | rfl | rfl<;>simp
   dsimp only
   refine rwg (if_neg hno ..) ?_;exact wpAny_pure hq
  | _=>exact wpAny_pure hq
 cases t with
 | Tuple ts k p =>
  cases v with
  | ref r=>exact go _
  | _=>exact wpAny_pure hq
 | List ts p =>
  cases v with
  | ref r=>exact go _
  | _=>exact wpAny_pure hq
 | _=>exact wpAny_pure hq
theorem cE8 (hh:A.handled=none) (ax:Addr) (n:Nat):Iter prog w A {its:Array Value // its.size=n} n (fun x i v=>x.1[i]?=some v) (fun x h=>h.IsList ax x.1) (fun I i h=>ax≠I∧h.IsListIter I ax i) where
 item:=fun x I i s Q E hi st sr hQ=>(Walks.list hh I ax st.1 x.1).item i s Q E (by refine rwg (x.2 ..) ?_;exact hi) ⟨st.2,sr⟩ fun v h' tk hP hs hk=>hQ v h' tk hP ⟨st.1,hs.1⟩ fun b o hb=>hk b o (by simpa using hb)
 done:=fun x I s Q E st sr hQ=>(Walks.list hh I ax st.1 x.1).done s Q E ⟨by refine rwg (x.2 ..) ?_;exact st.2,sr⟩ fun h' tk hk=>hQ h' tk fun b o hb=>hk b o (by simpa using hb)
 keep:=fun I i h h' st hk=>⟨st.1,st.2.at hk⟩
 obj:=fun I i h st=>let ⟨o,ho,_⟩:=st.2;⟨o,ho⟩
 self:=fun I i s Q E st hq=>wpAny_pyIter_listiter st.2 hq
 go:=fun I i t v s Q E st hq=>let ⟨o,ho,hc,_⟩:=st.2;bE ho hc (.inl rfl) hq
theorem cP0 (hh:A.handled=none) (ax:Addr) (n:Nat):Iter prog w A {its:Array Value // its.size=n} n (fun x i v=>x.1[i]?=some v) (fun x h=>h.IsTuple ax x.1) (fun I i h=>ax≠I∧h.IsTupleIter I ax i) where
 item:=fun x I i s Q E hi st sr hQ=>(Walks.tuple hh I ax st.1 x.1).item i s Q E (by refine rwg (x.2 ..) ?_;exact hi) ⟨st.2,sr⟩ fun v h' tk hP hs hk=>hQ v h' tk hP ⟨st.1,hs.1⟩ fun b o hb=>hk b o (by simpa using hb)
 done:=fun x I s Q E st sr hQ=>(Walks.tuple hh I ax st.1 x.1).done s Q E ⟨by refine rwg (x.2 ..) ?_;exact st.2,sr⟩ fun h' tk hk=>hQ h' tk fun b o hb=>hk b o (by simpa using hb)
 keep:=fun I i h h' st hk=>⟨st.1,st.2.at hk⟩
 obj:=fun I i h st=>let ⟨o,ho,_⟩:=st.2;⟨o,ho⟩
 self:=fun I i s Q E st hq=>wpAny_pyIter_tupleiter st.2 hq
 go:=fun I i t v s Q E st hq=>let ⟨o,ho,hc,_⟩:=st.2;bE ho hc (.inr (.inl rfl)) hq
theorem bR3 (hh:A.handled=none) (a c:Int) (n:Nat):Iter prog w A Unit n (fun u_ i v=>∃ t,v=.int (a + i * c) t) (fun u_ u_=>True) (fun I i h=>IsRangeIter h I (a + (i:Nat) * c) ((n:Int) - (i:Nat)) c) where
 item:=fun x I i s Q E hi st sr hQ=>(Walks.range hh I a c n).item i s Q E hi st fun v h' tk hP hs hk=>hQ v h' tk hP hs fun b o hb=>hk b o (by simpa using hb)
 done:=fun x I s Q E st sr hQ=>(Walks.range hh I a c n).done s Q E st fun h' tk hk=>hQ h' tk fun b o hb=>hk b o (by simpa using hb)
 keep:=fun I i h h' st hk=>hk _ st
 obj:=fun I i h st=>⟨_,st⟩
 self:=fun I i s Q E st hq=>wpAny_pyIter_rangeiter st hq
 go:=fun I i t v s Q E st hq=>bE st rfl (.inr (.inr rfl)) hq
end
theorem aY6 (a b:Int):Builtin.Range.rangeSize a b (-1)=((a - b).toNat:Int):=by
 unfold Builtin.Range.rangeSize;refine rwg (if_neg (by decide) ..) ?_;split
 ·have:(a - b - 1) / (- -1:Int)=a - b - 1:=by (refine rwg (show (- -1:Int)=1 from rfl) ?_;refine rwg (Int.ediv_one ..) ?_;rfl)
  refine rwg (this ..) ?_;(clear this;lia)
 ·lia
section
variable {G:Gx} {prog:Program} {w:World} {A:Around} {V:Vw} {m:Str→Option Value} {σ:St} {ρ:List Addr} {s:Shared} {E:Value→Shared→Prop} {a:AV} {v:Value}
structure SrcOk (G:Gx) (prog:Program) (w:World) (A:Around) (V:Vw) (ρ:List Addr) (q:Sq) (st:St→Prop) (X:Type) (P:X→Nat→Value→Prop) (Sr:X→Heap→Prop) (It:Addr→Nat→Heap→Prop):Prop where
 it:Iter prog w A X q.len P Sr It
 src:∀ (m2:Str→Option Value) (r:List Addr) (σ2:St) (h2:Heap),Rel V m2 (ρ++r) σ2 h2→st σ2→∃ x,Sr x h2∧∀ i v c,P x i v→q.At i c→c.Is V.β (ρ++r) v
theorem Sq.at_lt {q:Sq} {i:Nat} (h:i < q.len):∃ c,q.At i c:=by
 cases q with
 | l xs=>exact ⟨_,getElem?_eq_getElem h⟩
 | r a n=>exact (aA0 (_) (h) (rfl))
 | d a n=>exact (aA0 (_) (h) (rfl))
theorem cQ8 (H:GV G prog w A V) {K:Sq→(St→Prop)→Prop} (R:Rel V m ρ σ s.heap) (hv:a.Is V.β ρ v) (h:srcV G σ a K) {C:Prop}
  (kk:∀ (q:Sq) (st:St→Prop) (X:Type) (P:X→Nat→Value→Prop) (Sr:X→Heap→Prop) (It:Addr→Nat→Heap→Prop),SrcOk G prog w A V ρ q st X P Sr It→K q st→q.len≤sizeLine→st σ →
   (∀ (Q:Value→Shared→Prop),(∀ o:Obj,o.isFreed=false→It s.heap.objs.size 0 (s.heap.push o)→Q (.ref s.heap.objs.size) ⟨s.heap.push o,s.gens,s.drawn,s.toks,s.os⟩)→wpAny (model prog w) A (pyIter v) Q E s)→C):C:=by
 rcases aW0 h with ⟨xs,hs,hsz,h⟩ | ⟨_,h⟩
 ·refine hide fun G_ k_=>?_;(refine aE H R hv hs ?_;intro l vs eo0 hl i;subst eo0)
  refine k_ ?_;have hlt:l < s.heap.objs.size:=by (refine aA3 hl ?_;clear hl;intro o ho _);exact Heap.lt_size ho
  refine kk (.l xs) _ _ _ _ _ ⟨cE8 H.g.hh l xs.length,fun m2 r σ2 h2 R2 hst=>?_⟩ h hsz hs fun Q hQ=>?_
  ·refine hide fun G_ k_=>?_;(refine aE H R2 (hv.more r) hst ?_;intro l2 vs2 e hl2 i2)
   cases e
   refine k_ ?_;refine (aA0 (⟨toArray vs2,by (refine rwg (size_toArray ..) ?_;refine rwg (i2.length ..) ?_;rfl)⟩) (hl2) (fun j v c hP hc=>?_));refine hide fun G_ k_=>?_;(refine aA3 (i2.get hc) ?_;intro u hu iu)
   have hP:(toArray vs2)[j]?=some v:=hP;(replace hP:=(getElem?_toArray ..)▸hP;replace hP:=(hu ..)▸hP)
   clear hu;cases hP
   refine k_ ?_;exact iu
  ·exact wpAny_pyIter_list hl (hQ _ rfl ⟨ne_of_lt hlt,_,Heap.get?_push_size _ rfl,rfl,rfl⟩)
 rcases aW0 h with ⟨xs,hs,hsz,h⟩ | ⟨_,h⟩
 ·refine hide fun G_ k_=>?_;(refine bT5 H R hv hs ?_;intro l vs eo0 hl i;subst eo0)
  refine k_ ?_;have hlt:l < s.heap.objs.size:=by (refine aA3 hl ?_;clear hl;intro o ho _);exact Heap.lt_size ho
  refine kk (.l xs) _ _ _ _ _ ⟨cP0 H.g.hh l xs.length,fun m2 r σ2 h2 R2 hst=>?_⟩ h hsz hs fun Q hQ=>?_
  ·refine hide fun G_ k_=>?_;(refine bT5 H R2 (hv.more r) hst ?_;intro l2 vs2 e hl2 i2)
   cases e
   refine k_ ?_;refine (aA0 (⟨toArray vs2,by (refine rwg (size_toArray ..) ?_;refine rwg (i2.length ..) ?_;rfl)⟩) (hl2) (fun j v c hP hc=>?_));refine hide fun G_ k_=>?_;(refine aA3 (i2.get hc) ?_;intro u hu iu)
   have hP:(toArray vs2)[j]?=some v:=hP;(replace hP:=(getElem?_toArray ..)▸hP;replace hP:=(hu ..)▸hP)
   clear hu;cases hP
   refine k_ ?_;exact iu
  ·exact wpAny_pyIter_tuple hl (hQ _ rfl ⟨ne_of_lt hlt,_,Heap.get?_push_size _ rfl,rfl,rfl⟩)
 refine hide fun G_ k_=>?_;(refine aA h ?_;intro no0 hr h;obtain ⟨lo,hi,c⟩:=no0)
 (refine aM0 (cT H R hv hr) ?_;intro l t u z eo0 hl;clear hv;subst eo0)
 refine k_ ?_;refine aH6 h (fun e h=>?_) (fun u_ h=>?_)
 ·clear hr;obtain rfl:c=1:=eq_of_beq e;refine kk (.r lo (hi - lo).toNat) _ _ _ _ _ ⟨bR3 H.g.hh lo 1 (hi - lo).toNat,fun m2 r σ2 h2 R2 u_=>(aA0 (()) (trivial) (fun i v c hP hc=>?_))⟩ h.2 h.1.2 trivial fun Q hQ=>?_
  ·refine hide fun G_ k_=>?_;(refine aJ9 hP ?_;clear hP;intro t eo0;subst eo0)
   (refine aE8 hc ?_;clear hc;intro _ eo0;subst eo0)
   refine k_ ?_;refine rwg (Int.mul_one ..) ?_;exact aJ6 t
  ·refine wpAny_pyIter_range hl h.1.1 (hQ _ rfl ?_);show IsRangeIter _ _ _ _ _
   refine rwg (rangeSize_nat ..) ?_;have:=Heap.get?_push_size s.heap (o:={cls:=.type "range_iterator",data:=.fields #[rawInt lo,rawInt ((hi - lo).toNat:Int),rawInt 1]}) rfl;simpa [IsRangeIter] using this
 ·refine hide fun G_ k_=>?_;(refine aB5 h ?_;intro e h)
  obtain rfl:c=-1:=eq_of_beq e;refine k_ ?_;refine kk (.d lo (lo - hi).toNat) _ _ _ _ _ ⟨bR3 H.g.hh lo (-1) (lo - hi).toNat,fun m2 r σ2 h2 R2 u_=>(aA0 (()) (trivial) (fun i v c hP hc=>?_))⟩ h.2 h.1.2 trivial fun Q hQ=>?_
  ·refine hide fun G_ k_=>?_;(refine aJ9 hP ?_;clear hP;intro t eo0;subst eo0)
   (refine aE8 hc ?_;clear hc;intro _ eo0;subst eo0)
   refine k_ ?_;refine rwg (show lo - (i:Int)=lo + (i:Int) * -1 by (clear hr e h k_;lia)) ?_;exact aJ6 t
  ·refine wpAny_pyIter_range hl h.1.1 (hQ _ rfl ?_);show IsRangeIter _ _ _ _ _
   refine rwg (aY6 ..) ?_;have:=Heap.get?_push_size s.heap (o:={cls:=.type "range_iterator",data:=.fields #[rawInt lo,rawInt ((lo - hi).toNat:Int),rawInt (-1)]}) rfl;simpa [IsRangeIter] using this
end
section
open PyProof.Rows.LCg
noncomputable def Vw.inn (V:Vw) (I:Addr) (oI:Obj) (C:Addr) (oC:Obj) (D:Addr) (oD:Obj) (m₂:Str→Option Value):Vw :=
 {V with W:=fun wd l=>∃ l0,l=(I,oI)::(C,oC)::(D,oD)::l0∧V.W wd l0,nm:=fun u_=>m₂}
section
variable {G:Gx} {prog:Program} {w:World} {A:Around} {V:Vw} {env:Env} {σ:St} {scope:Scope} {cl:List (Str × Addr)} {x:Str} {m m₂:Str→Option Value} {I C D:Addr} {oI oC oD:Obj} {hw nw:List (Addr × Obj)} {h h':Heap} {c:AV} {v:Value}
theorem bC0 (H:VOk G prog w A V env) (scope:Scope):relabel scope env=cB4 scope G.cs:=by
 refine (?_:cB4 scope env.scope=_);(refine rwg (H.scope ..) ?_;rfl)
set_option tactic.hygienic true in
theorem aN {outer:Scope} {k:NameKind}:∀ {names:List (Str × NameKind)} {y:Str},(∀ p∈names,p.2≠.cell)→(names.map fun (n,k)=>if (k==NameKind.free && outer.kind==.function && outer.names.lookup n==some .cell) then (n,NameKind.cell) else (n,k)).lookup y=some k→(k=.cell∨k=.free)→names.lookup y=some .free
 | [],y,_,e,_=>nomatch e
 | (n,k')::r,y,hc,e,hk=>by
  have ih:=aN (outer:=outer) (k:=k) (names:=r) (y:=y) fun p hp=>hc p (.tail _ hp);rw [map_cons] at e;dsimp only at e
  rw [lookup_cons];by_cases hy:(y==n)=true
  ·rw [hy];dsimp only
   split at e
   ·rename_i hb;rw [Bool.and_eq_true,Bool.and_eq_true] at hb;(refine rwg (eq_of_beq hb.1.1 ..) ?_;rfl)
   ·rw [lookup_cons,hy] at e;dsimp only at e
    clear ih;obtain rfl:=Option.some.inj e;clear e;rcases hk with rfl | rfl
    ·exact absurd rfl (hc (n,.cell) (.head _))
    ·rfl
  ·rw [Bool.not_eq_true] at hy;refine rwg (hy ..) ?_;split at e<;>rw [lookup_cons,hy] at e<;>exact ih e hk
set_option tactic.hygienic true in
theorem aE0 {β:Type}:∀ {l:List (Str × β)} {y:Str} {k:β},l.lookup y=some k→(y,k)∈l
 | (n,b)::r,y,k,e=>by
  rw [lookup_cons] at e;split at e
  ·rename_i hy;obtain rfl:=eq_of_beq hy;obtain rfl:=Option.some.inj e;exact .head _
  ·exact .tail _ (aE0 e)
structure CompOk (G:Gx) (scope:Scope) (xs:List Str):Prop where
 kind:scope.kind=.function
 cell:∀ y∈scope.names,y.2≠.cell
 loc:∀ y∈scope.names,y.2=.local→scope.names.lookup y.1=some .local
 own:∀ x∈xs,scope.names.lookup x=some .local
 free:∀ y∈scope.names,y.2=.free→(G.cs.names.lookup y.1=some .cell∨G.cs.names.lookup y.1=some .free)∧∃ k,G.ce.lookup y.1=some k
theorem cD6 {xs:List Str} (h:cC7 G scope xs=true):CompOk G scope xs:=by
 unfold cC7 at h;simp only [Bool.and_eq_true,all_eq_true,Bool.or_eq_true,Bool.not_eq_true',beq_iff_eq,beq_eq_false_iff_ne,isSome_iff_exists] at h
 (refine aE8 h ?_;clear h;intro no0 h5;obtain ⟨⟨⟨h1,h2⟩,h3⟩,h4⟩:=no0)
 exact ⟨h1,h2,fun y hy e=>(h3 y hy).resolve_left fun q=>q e,h4,fun y hy e=>(h5 y hy).resolve_left fun q=>q e⟩
theorem aT9 {f:Str × NameKind→List (Str × Addr)→Sem (ForInStep (List (Str × Addr)))}:∀ (names:List (Str × NameKind)) (acc:List (Str × Addr)),
  (∀ y∈names,∀ acc,f y acc=pure (.yield (if y.2=.free then (y.1,(env.cells.lookup y.1).getD 0)::acc else acc)))→(∀ y∈names,y.2=.free→(env.cells.lookup y.1).isSome) →
  ∃ cl,forIn names acc f=pure cl∧∀ y,((y,NameKind.free)∈names∨acc.lookup y=env.cells.lookup y)→cl.lookup y=env.cells.lookup y
 | [],acc,_,_=>(aA0 (acc) (rfl) (fun y h=>h.elim (fun h=>nomatch h) id))
 | (n,k)::r,acc,hf,hs=>by
  (refine aA3 (aT9 r (if k=.free then (n,(env.cells.lookup n).getD 0)::acc else acc) (fun y hy=>hf y (.tail _ hy)) (fun y hy=>hs y (.tail _ hy))) ?_;intro cl e hl)
  refine (aA0 (cl) (?_) (fun y hy=>hl y ?_))
  ·(refine rwg (List.forIn_cons ..) ?_;refine rwg (hf (n,k) (.head _) ..) ?_;refine rwg (pure_bind ..) ?_);exact e
  ·by_cases hyn:y=n
   ·clear hf e hl;subst hyn;by_cases hk:k=.free
    ·(refine aJ9 (isSome_iff_exists.mp (hs (y,k) (.head _) hk)) ?_;intro a ha)
     exact .inr (by (refine rwg (if_pos hk ..) ?_;refine rwg (lookup_cons ..) ?_;refine rwg (ha ..) ?_);simp)
    ·rcases hy with hy | hy
     ·rcases mem_cons.mp hy with e | hy
      ·clear hs hy;cases e;exact absurd rfl hk
      ·exact .inl hy
     ·exact .inr (by refine rwg (if_neg hk ..) ?_;exact hy)
   ·rcases hy with hy | hy
    ·rcases mem_cons.mp hy with e | hy
     ·clear hf hs hl hy;obtain rfl:=Prod.mk.inj e |>.1;exact absurd rfl hyn
     ·exact .inl hy
    ·refine .inr ?_;split
     ·(refine rwg (lookup_cons ..) ?_;refine rwg (beq_eq_false_iff_ne.mpr hyn ..) ?_);exact hy
     ·exact hy
theorem bU6 (H:VOk G prog w A V env) {xs:List Str} (hc:CompOk G scope xs):∃ cl,closureFor scope env=pure cl∧∀ y,scope.names.lookup y=some .free→cl.lookup y=env.cells.lookup y:=by
 have hs:∀ y∈scope.names,y.2=.free→(env.cells.lookup y.1).isSome:=fun y hy e=>by
  obtain ⟨h1,k,hk⟩:=hc.free y hy e;obtain ⟨a,_,ha⟩:=H.cell y.1 k hk h1;refine rwg (ha ..) ?_;rfl
 obtain ⟨cl,e,hl⟩:=aT9 (env:=env) (f:=fun x cs=>match x with | (name,kind)=>if (kind==NameKind.free)=true then do let l ← cellOf env name;pure (ForInStep.yield ((name,l)::cs)) else pure (ForInStep.yield cs)) scope.names [] (fun y hy acc=>by
  obtain ⟨n,k⟩:=y;dsimp only
  by_cases hk:k=.free
  ·obtain ⟨a,ha⟩:=isSome_iff_exists.mp (hs _ hy hk);have ha:env.cells.lookup n=some a:=ha;(refine rwg (if_pos (by rw [hk];rfl) ..) ?_;refine rwg (if_pos hk ..) ?_)
   have:cellOf env n=pure a:=by unfold cellOf;(refine rwg (ha ..) ?_;rfl)
   (refine rwg (this ..) ?_;refine rwg (ha ..) ?_);rfl
  ·(refine rwg (if_neg (by simpa using hk) ..) ?_;refine rwg (if_neg hk ..) ?_;rfl)) hs
 exact (aA0 (cl) ((congrArg (· >>= pure) e).trans rfl) (fun y hy=>hl y (.inl (aE0 hy))))
theorem VOk.inn (H:VOk G prog w A V env) {xs:List Str} (hc:CompOk G scope xs) (hcl:∀ y,scope.names.lookup y=some .free→cl.lookup y=env.cells.lookup y) (hC:NsObj oC m₂):VOk (G.comp scope) prog w A (V.inn I oI C oC D oD m₂) (compEnvC scope cl C env) where
 g:=⟨H.g.hh,H.g.hu,H.g.ar,H.g.glob,H.g.base,H.g.tab,H.g.call,H.g.fn,H.g.meth,H.g.vmeth,H.g.fz,H.g.frz⟩
 ov:=by
  rintro wd l ⟨l0,rfl,hW⟩;(refine aD1 (H.ov wd l0 hW) ?_;intro pre l1 eo0 h1 h2;clear hW;subst eo0)
  exact ⟨(I,oI)::(C,oC)::(D,oD)::pre,l1,rfl,h1,fun wd' l' h'=>(aA0 (pre++l') (rfl) (h2 wd' l' h'))⟩
 scope:=bC0 H scope
 kind:=hc.kind
 gl:=H.gl
 bl:=H.bl
 loc:=fun x v s m' wd hw nw pos Q E hW F N hv hl hd hq=>by
  (refine aA3 hW ?_;clear hW;intro l0 eo0 _;subst eo0)
  exact ldVarK (hC.ns (N (C,oC) (.tail _ (.head _))).1) hv hq hc.kind (by refine (?_:(relabel scope env).names.lookup x=_);refine rwg (bC0 H ..) ?_;exact hl) hd
 cell:=fun y k hk hl=>by
  have hf:scope.names.lookup y=some .free:=hl.elim (fun e=>aN (outer:=G.cs) hc.cell e (.inl rfl)) fun e=>aN (outer:=G.cs) hc.cell e (.inr rfl);(refine aA3 (H.cell y k hk (hc.free _ (aE0 hf) rfl).1) ?_;intro a h1 h2)
  exact (aA0 (a) (h1) (by refine (?_:cl.lookup y=_);refine rwg (hcl y hf ..) ?_;exact h2))
 exe:=fun u_ u_ u_ u_ u_ u_ u_ u_ u_ u_ h=>h.elim
theorem dC1 (P:Pcs V σ m hw nw) (F:Fr V.h₀ V.L h m) (N:News V.h₀ V.L h ((I,oI)::(C,oC)::(D,oD)::(hw++nw))) (off:Off3 I C D (hw++nw)) (ne:((@Ne Nat I C)∧(@Ne Nat I D)∧(@Ne Nat C D))) {l:List (Str × AV)} (hx:∀ y a,l.lookup y=some a→∃ v,m₂ y=some v∧a.Is V.β (nw.map (·.1)) v) :
  Rel (V.inn I oI C oC D oD m₂) m (nw.map (·.1)) (σ.inn l) h:=by
 have off:=off.mem;refine ⟨(I,oI)::(C,oC)::(D,oD)::hw,nw,rfl,F,N,(aA0 (hw) (rfl) (P.hW)),?_,P.len,P.ob,fun y a e=>?_,P.ce⟩
 ·have nd:=P.nd;refine (?_:(I::C::D::(hw++nw).map (·.1)).Nodup);refine nodup_cons.mpr ⟨?_,nodup_cons.mpr ⟨?_,nodup_cons.mpr ⟨?_,nd⟩⟩⟩
  ·intro hm;rcases mem_cons.mp hm with e | hm
   ·exact ne.1 e
   rcases mem_cons.mp hm with e | hm
   ·exact ne.2.1 e
   (refine aA6 hm ?_;intro p hp e)
   exact (off p hp).1 e
  ·intro hm;rcases mem_cons.mp hm with e | hm
   ·exact ne.2.2 e
   (refine aA6 hm ?_;intro p hp e)
   exact (off p hp).2.1 e
  ·intro hm;(refine aA6 hm ?_;intro p hp e)
   exact (off p hp).2.2 e
 ·exact hx y a e
theorem cF4 {ρ r:List Addr} {σ₀ σ3:St} {m:Str→Option Value} (P:Pcs V σ₀ m hw nw) (e:ρ=nw.map (·.1)) (R:Rel (V.inn I oI C oC D oD m₂) m (ρ++r) σ3 h'):∃ hw' nw',nw'.map (·.1)=ρ++r∧Fr V.h₀ V.L h' m∧News V.h₀ V.L h' ((I,oI)::(C,oC)::(D,oD)::(hw'++nw'))∧Off3 I C D (hw'++nw')∧Pcs V (σ3.out σ₀.loc) m hw' nw':=by
 refine hide fun G_ k_=>?_;subst e;(refine R.el ?_;intro hw1 nw1 e1 F N P1)
 (refine aA3 (P1.hW) ?_;intro hw' eo0 hW;subst eo0)
 refine k_ ?_;have nd:(I::C::D::(hw'++nw1).map (·.1)).Nodup:=P1.nd;rw [nodup_cons,nodup_cons,nodup_cons] at nd;refine ⟨hw',nw1,e1.symm,F,N,Off3.of fun p hp=>⟨fun e=>nd.1 (.tail _ (.tail _ (e▸mem_map_of_mem hp))),fun e=>nd.2.1 (.tail _ (e▸mem_map_of_mem hp)),fun e=>nd.2.2.1 (e▸mem_map_of_mem hp)⟩,hW,nd.2.2.2,P1.len,P1.ob,fun y a e=>?_,P1.ce⟩;refine hide fun G_ k_=>?_;(refine aA3 (P.lo y a e) ?_;intro v hv i)
 refine k_ ?_;exact (aA0 (v) (hv) (e1▸i.more r))
end
theorem aF7 {α:Type} {l:List α} {a:α} (h:aY2 l=some a):l=[a]:=by
 match l,h with
 | [b],h=>obtain rfl:=Option.some.inj h;rfl
theorem aN0 {α:Type} {l:List α} {p:α × α} (h:cK5 l=some p):l=[p.1,p.2]:=by
 match l,h with
 | [b,c],h=>obtain rfl:=Option.some.inj h;rfl
theorem cQ0 {l:List Expr} {ct:Option Expr} (h:dC2 l=some ct):l=ct.toList:=by
 match l,h with
 | [],h=>obtain rfl:=Option.some.inj h;rfl
 | [b],h=>obtain rfl:=Option.some.inj h;rfl
theorem cB7 {e:Expr} {x:Str} (h:aE7 e=some x):∃ p,e=.Name x p :=
 let ⟨y,p,q,h⟩:=bQ h
 ⟨p,(Option.some.inj h:y=x)▸q⟩
theorem aI1 {e:Expr} {x:Str} {C:Prop} (h:aE7 e=some x) (k:∀ p,e=.Name x p→C):C:=(cB7 h).elim k
theorem cN {t:Expr} {ts:List Expr} (h:bG8 t=some ts):∃ k p,t=.Tuple ts k p :=
 let ⟨y,k,p,q,h⟩:=cT4 h
 (aT2 (k) (p) ((Option.some.inj h:y=ts)▸q))
theorem bG0 {t:Expr} {ts:List Expr} {C:Prop} (h:bG8 t=some ts) (k:∀ k p,t=.Tuple ts k p→C):C:=(cN h).elim fun a h=>h.elim (k a)
inductive Sts (M:Model) (A:Around) (env:Env):List Str→List (Value→Sem Unit)→Prop
 | nil:Sts M A env [] []
 | cons {x:Str} {f:Value→Sem Unit} {xs:List Str} {fs:List (Value→Sem Unit)} (h:∀ (v:Value) (Q:Unit→Shared→Prop) (E:Value→Shared→Prop) (s:Shared),wpAny M A (storeName env x v) Q E s→wpAny M A (f v) Q E s) (t:Sts M A env xs fs):Sts M A env (x::xs) (f::fs)
theorem Sts.bind {M:Model} {A:Around} {env:Env}:∀ xs:List Str,Sts M A env xs (xs.map fun n=>bindName env n)
 | []=>.nil
 | _::r=>.cons (fun u_ u_ u_ u_ h=>wpAny_bindName h) (Sts.bind r)
theorem aN6 {M:Model} {A:Around} {env:Env}:∀ (ts:List Expr) (xs:List Str),ts.mapM aE7=some xs→Sts M A env xs ((assignEach ts env).map (·.2))∧(assignEach ts env).findIdx? (·.1)=none∧(assignEach ts env).length=xs.length
 | [],xs,h=>by
  obtain rfl:[]=xs:=by simpa using h
  exact ⟨.nil,rfl,rfl⟩
 | t::r,xs,h=>by
  rw [mapM_cons] at h;refine hide fun G_ k_=>?_;(refine aA1 h ?_;intro x hx h)
  (refine aA1 h ?_;intro ys hy h)
  obtain rfl:x::ys=xs:=Option.some.inj h;(refine aI1 hx ?_;intro p eo0;clear hx h;subst eo0)
  (refine aH8 (aN6 (M:=M) (A:=A) (env:=env) r ys hy) ?_;intro a b c)
  refine k_ ?_;have e:assignEach (Expr.Name x p::r) env=(false,fun v=>assign (Expr.Name x p) env v)::assignEach r env:=rfl;refine rwg (e ..) ?_;exact ⟨.cons (fun u_ u_ u_ u_ h=>wpAny_assign_Name h) a,by (refine rwg (List.findIdx?_cons ..) ?_;refine rwg (b ..) ?_);rfl,by (refine rwg (length_cons ..) ?_;refine rwg (length_cons ..) ?_;refine rwg (c ..) ?_;rfl)⟩
section
variable {G:Gx} {prog:Program} {w:World} {A:Around} {V:Vw} {m:Str→Option Value} {σ:St} {ρ:List Addr} {a:AV} {v:Value}
theorem cT3 (H:GV G prog w A V) {h:Heap} (R:Rel V m ρ σ h) {xs:List AV} (hx:a.Is V.β ρ v) (hs:bX7 G σ a=some xs):∃ l vs,v=.ref l∧(h.IsList l (toArray vs)∨IsTup h l (toArray vs))∧AllIs V.β ρ xs vs:=by
 refine hide fun G_ k_=>?_;(refine aA1 hs ?_;intro ao h1 h2)
 (refine bS8 H R hx h1 ?_;intro l o eo0 ho i;clear hx;subst eo0)
 refine k_ ?_;clear h1;cases ao<;>cases h2
 ·refine hide fun G_ k_=>?_;(refine aG9 i ?_;clear i;intro vs n eo0 i;subst eo0)
  refine k_ ?_;exact ⟨l,vs,rfl,.inl ⟨_,ho,rfl,n,rfl⟩,i⟩
 ·refine hide fun G_ k_=>?_;obtain ⟨c,vs,n,e,i⟩:=i;refine k_ ?_;exact ⟨l,vs,rfl,.inr ⟨o,ho,c,n,e⟩,i⟩
end
section
variable {prog:Program} {w:World} {A:Around} {s:Shared} {R:Result→Shared→Prop}
set_option tactic.hygienic true in
theorem bN6 {elt tg iter:Expr} {ct:Option Expr} {scope:Scope} {pos:Pos} {it acc:Value} {env:Env} (I:Nat→Shared→Prop)
  (turn:∀ n s,I n s→wpAny (model prog w) A (pyNext it) (fun r s₁=>match r with
   | none=>R (.ok .next) s₁
   | some v=>wpAny (model prog w) A (letOwnedTupleGo tg it v) (fun u_ s₁'=>wpAny (model prog w) A (assign tg env v) (fun u_ s₂ =>
     wpAny (model prog w) A (forIn ct.toList true fun c r=>if r=true then do let ok ← isTrue c env (eval c env);pure (ForInStep.yield ok) else pure (ForInStep.yield r)) (fun ok s₃ =>
      if ok=true then wpAny (model prog w) A (eval elt env) (fun x s₄ =>
       wpAny (model prog w) A (call (.builtin "list.append") [acc,x]) (fun u_ s₅=>∃ m,m < n∧I m s₅) (fun u_ u_=>False) s₄) (fun u_ u_=>False) s₃
      else ∃ m,m < n∧I m s₃) (fun u_ u_=>False) s₂) (fun u_ u_=>False) s₁') (fun u_ u_=>False) s₁) (fun u_ u_=>False) s)
  (n:Nat) (h:I n s):codeAny (model prog w) A (.compLoop (.ListComp elt [⟨tg,iter,ct.toList,0⟩] scope pos) 0 it acc env) R s:=by
 refine codeAny_loop rfl I (fun n s hI=>?_) n h;refine (?_:wpAny _ A ((compTurn (.ListComp elt [⟨tg,iter,ct.toList,0⟩] scope pos) 0 it acc env).onRaise (fun x=>do noteFrame x env;theTreesLotGoes x)) _ _ s);refine wpAny_noted ?_;refine rwg (compTurn_list ..) ?_;refine wpAny_bind (wpAny_standAt (wpAny_bind (wpAny_mono (turn n s hI) (fun r s₁ h₁=>?_) fun u_ u_ h'=>h'.elim)));cases r with
 | none=>exact wpAny_pure h₁
 | some v =>
  refine wpAny_bind (wpAny_mono h₁ (fun u_ s₁' h₁'=>?_) fun u_ u_ h'=>h'.elim);refine wpAny_bind (wpAny_mono h₁' (fun u_ s₂ h₂=>wpAny_bind (wpAny_mono h₂ (fun ok s₃ h₃=>?_) fun u_ u_ h'=>h'.elim)) fun u_ u_ h'=>h'.elim);cases ok with
  | false=>exact wpAny_pure ⟨rfl,h₃⟩
  | true=>exact wpAny_bind (wpAny_bind (wpAny_mono h₃ (fun x s₄ h₄=>wpAny_bind (wpAny_mono h₄ (fun u_ s₅ h₅=>wpAny_pure (wpAny_pure ⟨rfl,h₅⟩)) fun u_ u_ h'=>h'.elim)) fun u_ u_ h'=>h'.elim))
end
section
variable {G:Gx} {prog:Program} {w:World} {A:Around} {V:Vw} {m:Str→Option Value} {env:Env} {σ:St} {ρ:List Addr} {s:Shared} {E:Value→Shared→Prop} {n:Nat} {a c:AV} {v:Value} {scope:Scope} {cl:List (Str × Addr)} {xs:List Str}
theorem bA0 (H:VOk G prog w A V env) (hc:CompOk G scope xs) {C:Addr} {o:Obj} {m₁:Str→Option Value} {x:Str} {pre post:List (Addr × Obj)} {Q:Unit→Shared→Prop} (hx:x∈xs) (F:Fr V.h₀ V.L s.heap m) (N:News V.h₀ V.L s.heap (pre++(C,o)::post)) (ne:∀ p∈pre++post,p.1≠C) (ho:NsObj o m₁)
  (hQ:∀ h' tk o',Fr V.h₀ V.L h' m→News V.h₀ V.L h' (pre++(C,o')::post)→NsObj o' (fun y=>if y=x then some v else m₁ y)→Q () ⟨h',s.gens,s.drawn,tk,s.os⟩):wpAny (model prog w) A (storeName (compEnvC scope cl C env) x v) Q E s:=by
 have hC:=N (C,o) (mem_append_right _ (.head _));refine wpAny_storeName_local (lookup_relabel_local (hc.own x hx)) (ho.ns hC.1) (fun h' hn hs=>?_) (by simp [compEnvC,relabel,hc.kind]);(refine aA3 (ns_obj hn) ?_;intro o' e ho')
 refine hQ h' _ o' (F.change hs hC.2.1 hC.2.2) (fun p hp=>?_) ho';rcases mem_append.mp hp with hp | hp
 ·have z:=N p (mem_append_left _ hp);exact ⟨hs.extBut _ _ (ne p (mem_append_left _ hp)) z.1,z.2⟩
 ·rcases mem_cons.mp hp with rfl | hp
  ·exact ⟨e,hC.2⟩
  ·have z:=N p (mem_append_right _ (.tail _ hp));exact ⟨hs.extBut _ _ (ne p (mem_append_right _ hp)) z.1,z.2⟩
set_option tactic.hygienic true in
theorem bM (H:VOk G prog w A V env) (hc:CompOk G scope xs) {C:Addr} {pre post:List (Addr × Obj)} (ne:∀ p∈pre++post,p.1≠C) {Q:Unit→Shared→Prop}:∀ {ys:List Str} {fs:List (Value→Sem Unit)},Sts (model prog w) A (compEnvC scope cl C env) ys fs→∀ (as:List AV) (vs:List Value) (o:Obj) (m₁:Str→Option Value) (s:Shared),(∀ y∈ys,y∈xs)→aT8 ys=true→ys.length=as.length→AllIs V.β ρ as vs →
  Fr V.h₀ V.L s.heap m→News V.h₀ V.L s.heap (pre++(C,o)::post)→NsObj o m₁ →
  (∀ h' tk o' m₂,Fr V.h₀ V.L h' m→News V.h₀ V.L h' (pre++(C,o')::post)→NsObj o' m₂→(∀ y a,(ys.zip as).lookup y=some a→∃ v,m₂ y=some v∧a.Is V.β ρ v)→(∀ y,y∉ys→m₂ y=m₁ y)→Q () ⟨h',s.gens,s.drawn,tk,s.os⟩)→wpAny (model prog w) A (assignInOrder fs vs) Q E s:=by
 intro ys fs S
 induction S with
 | nil =>
  intro as vs o m₁ s _ _ hl i F N ho hQ;cases i with
  | nil=>exact assignInOrder_nil (hQ s.heap s.toks o m₁ F N ho (fun y a e=>nomatch e) fun u_ u_=>rfl)
  | cons=>cases hl
 | @cons x f xs' fs' hf _ ih =>
  intro as vs o m₁ s hsub hnd hl i F N ho hQ;cases i with
  | nil=>cases hl
  | cons i is =>
   unfold aT8 at hnd;rw [Bool.and_eq_true,Bool.not_eq_true',List.any_eq_false] at hnd;refine assignInOrder_cons (hf _ _ _ _ (bA0 H hc (hsub _ (.head _)) F N ne ho fun h' tk o' F' N' ho'=>?_));refine ih _ _ o' _ ⟨h',s.gens,s.drawn,tk,s.os⟩ (fun y hy=>hsub y (.tail _ hy)) hnd.2 (by simpa using hl) is F' N' ho' fun h2 tk2 o2 m₂ F2 N2 ho2 hm hm'=>hQ h2 tk2 o2 m₂ F2 N2 ho2 (fun y a e=>?_) fun y hy=>?_
   ·rw [List.zip_cons_cons,lookup_cons] at e;split at e
    ·rename_i hy;clear hf hsub hl hQ ho';obtain rfl:=eq_of_beq hy;cases e
     have hnot:y∉xs':=fun hm=>absurd (hnd.1 y hm) (by simp);exact (aA0 (_) (by (refine rwg (hm' y hnot ..) ?_;refine rwg (if_pos rfl ..) ?_;rfl)) (i))
    ·exact hm y a e
   ·rw [mem_cons,not_or] at hy;(refine rwg (hm' y hy.2 ..) ?_;refine rwg (if_neg hy.1 ..) ?_;rfl)
set_option tactic.hygienic true in
theorem tgt_ok (H:VOk G prog w A V env) (hc:CompOk G scope xs) {tg:Expr} {K:List (Str × AV)→Prop} (htn:bT3 tg=some xs) {C:Addr} {o:Obj} {m₁:Str→Option Value} {hw nw pre post:List (Addr × Obj)} {Q:Unit→Shared→Prop} (P:Pcs V σ m hw nw) (hv:c.Is V.β (nw.map (·.1)) v) (hsub:∀ p∈hw++nw,p∈pre++(C,o)::post) (F:Fr V.h₀ V.L s.heap m) (N:News V.h₀ V.L s.heap (pre++(C,o)::post)) (ne:∀ p∈pre++post,p.1≠C) (ho:NsObj o m₁) (h:tgt G σ tg c K)
  (hQ:∀ h' tk o' m₂ l,K l→Fr V.h₀ V.L h' m→News V.h₀ V.L h' (pre++(C,o')::post)→NsObj o' m₂→(∀ y a,l.lookup y=some a→∃ v,m₂ y=some v∧a.Is V.β (nw.map (·.1)) v)→Q () ⟨h',s.gens,s.drawn,tk,s.os⟩):wpAny (model prog w) A (assign tg (compEnvC scope cl C env) v) Q E s:=by
 refine aB7 h (fun x hx h=>?_) (fun hno h=>?_)
 ·refine hide fun G_ k_=>?_;(refine aI1 hx ?_;intro p eo0;clear hx;subst eo0)
  obtain rfl:[x]=xs:=Option.some.inj htn;refine k_ ?_;refine wpAny_assign_Name (bA0 H hc (.head _) F N ne ho fun h' tk o' F' N' ho'=>hQ h' tk o' _ _ h F' N' ho' fun y a e=>?_);rw [lookup_cons] at e;split at e
  ·rename_i hy;cases e
   exact (aA0 (v) (by (refine rwg (if_pos (eq_of_beq hy) ..) ?_;rfl)) (hv))
  ·cases e
 ·refine hide fun G_ k_=>?_;(refine aA h ?_;intro ts ht h1)
  (refine aA h1 ?_;intro ys hy h2)
  (refine aA h2 ?_;intro as hs h3)
  (refine aB5 h3 ?_;intro hl h4)
  clear h h1 h2 h3;rw [Bool.and_eq_true] at hl;have hlen:ys.length=as.length:=eq_of_beq hl.1;(refine bG0 ht ?_;intro k p eo0;clear h;subst eo0)
  obtain rfl:ys=xs:=by
   unfold bT3 at htn;rw [hno,ht] at htn;have htn:ts.mapM aE7=some xs:=htn;rw [hy] at htn;exact Option.some.inj htn
  (refine aD1 (cT3 H.gv (P.rel F fun p hp=>N p (hsub p hp)) hv hs) ?_;intro l vs eo0 hlst i;clear hv;subst eo0)
  (refine aH8 (aN6 (M:=model prog w) (A:=A) (env:=compEnvC scope cl C env) ts ys hy) ?_;intro S e1 e2)
  refine k_ ?_;have e3:(assignEach ts (compEnvC scope cl C env)).length=(toArray vs).size:=by (refine rwg (e2 ..) ?_;refine rwg (hlen ..) ?_;refine rwg (size_toArray ..) ?_;refine rwg (i.length ..) ?_;rfl)
  have go:∀ h',Fr V.h₀ V.L h' m→News V.h₀ V.L h' (pre++(C,o)::post)→wpAny (model prog w) A (assignInOrder ((assignEach ts (compEnvC scope cl C env)).map (·.2)) (toArray vs).toList) Q E ⟨h',s.gens,s.drawn,s.toks,s.os⟩:=fun h' F' N' =>
   bM H hc ne S as vs o m₁ ⟨h',s.gens,s.drawn,s.toks,s.os⟩ (fun y hy=>hy) hl.2 hlen i F' N' ho fun h2 tk o' m₂ F2 N2 ho2 hm u_=>hQ h2 tk o' m₂ _ h4 F2 N2 ho2 hm
  rcases hlst with hlst | hlst
  ·exact kun_list F N hlst H.g.hh e3 e1 go
  ·exact unpackN_ F N hlst H.g.hh e3 e1 go
end
end
section
open PyProof.Rows.LCg
theorem aV3 {h₀ h h':Heap} {L I:Addr} {m:Str→Option Value} {news:List (Addr × Obj)} (F:Fr h₀ L h m) (N:News h₀ L h news) (hk:∀ b o,b≠I→h.get? b=some o→h'.get? b=some o) (hL:L≠I) (hI:h₀.get? I=none) (off:∀ p∈news,p.1≠I):Fr h₀ L h' m∧News h₀ L h' news :=
 ⟨⟨F.ns.at' fun o e=>hk L o hL e,fun b o e=>hk b o (fun q=>by (replace e:=(q ..)▸e;replace e:=(hI ..)▸e);cases e) (F.keep b o e),F.above⟩,fun p hp=>⟨hk _ _ (off p hp) (N p hp).1,(N p hp).2⟩⟩
section
variable {G:Gx} {prog:Program} {w:World} {A:Around} {V:Vw} {m:Str→Option Value} {env:Env} {σ:St} {ρ:List Addr} {s:Shared} {E:Value→Shared→Prop} {n:Nat} {a c:AV} {v:Value} {scope:Scope} {cl:List (Str × Addr)} {xs:List Str} {K:AV→St→Prop} {q:Sq} {st:St→Prop} {X:Type} {P:X→Nat→Value→Prop} {Sr:X→Heap→Prop} {It:Addr→Nat→Heap→Prop}
inductive CInv (V:Vw) (m:Str→Option Value) (ρ:List Addr) (s:Shared) (It:Addr→Nat→Heap→Prop) (J:Nat→List AV→St→Prop) (len:Nat) (I C D:Addr):Nat→Shared→Prop
 | mk (h':Heap) (tk:Nat) (g':GB s.gens) (i:Nat) (ys:List Value) (yv:List AV) (σ1:St) (m':Str→Option Value) (oC oI:Obj) (hw1 nw1:List (Addr × Obj)) (r:List Addr) (hi:i≤len) (hit:It I i h') (F:Fr V.h₀ V.L h' m)
  (N:News V.h₀ V.L h' ((I,oI)::(C,oC)::(D,lst ys)::(hw1++nw1))) (hC:NsObj oC m') (off:Off3 I C D (hw1++nw1)) (e1:nw1.map (·.1)=ρ++r) (Pc:Pcs V σ1 m hw1 nw1) (hJ:J i yv σ1) (hy:AllIs V.β (nw1.map (·.1)) yv ys) (hyl:ys.length≤i):CInv V m ρ s It J len I C D (len + 1 - i) ⟨h',g'.1,s.drawn,tk,s.os⟩
theorem cG5 {tg elt:Expr} {ct:Option Expr} (ih:∀ G V env,VOk G prog w A V env→bL5 G prog w A V env n) (H:VOk G prog w A V env) (hc:CompOk G scope xs) (hcl:∀ y,scope.names.lookup y=some .free→cl.lookup y=env.cells.lookup y) (htn:bT3 tg=some xs)
  (S:SrcOk G prog w A V ρ q st X P Sr It) (hsz:q.len≤sizeLine) (J:Nat→List AV→St→Prop) {loc:List (Str × AV)} (hst:∀ i ys σ1,J i ys σ1→st σ1∧σ1.loc=loc)
  (hturn:∀ i ys σ1 c,J i ys σ1→q.At i c→bK G (ev n (G.comp scope)) tg elt ct c loc σ1 fun y σ2=>J (i + 1) (more ys y) σ2) {I C D:Addr} (ne:((@Ne Nat I C)∧(@Ne Nat I D)∧(@Ne Nat C D))) {R:Shared→Prop}
  (hR:∀ (h:Heap) (tk:Nat) (g:GB s.gens) (ys:List Value) (yv:List AV) (σ1:St) (m':Str→Option Value) (oC:Obj) (hw1 nw1:List (Addr × Obj)) (r:List Addr),Fr V.h₀ V.L h m→News V.h₀ V.L h ((C,oC)::(D,lst ys)::(hw1++nw1))→NsObj oC m'→Off3 I C D (hw1++nw1)→nw1.map (·.1)=ρ++r→Pcs V σ1 m hw1 nw1→J q.len yv σ1→AllIs V.β (nw1.map (·.1)) yv ys→R ⟨h,g.1,s.drawn,tk,s.os⟩)
  (k:Nat) (s':Shared) (hI:CInv V m ρ s It J q.len I C D k s') :
  wpAny (model prog w) A (pyNext (.ref I)) (fun r s₁=>match r with
   | none=>R s₁
   | some v=>wpAny (model prog w) A (letOwnedTupleGo tg (.ref I) v) (fun u_ s₁'=>wpAny (model prog w) A (assign tg (compEnvC scope cl C env) v) (fun u_ s₂ =>
     wpAny (model prog w) A (forIn ct.toList true fun c r=>if r=true then do let ok ← isTrue c (compEnvC scope cl C env) (eval c (compEnvC scope cl C env));pure (ForInStep.yield ok) else pure (ForInStep.yield r)) (fun ok s₃ =>
      if ok=true then wpAny (model prog w) A (eval elt (compEnvC scope cl C env)) (fun x s₄ =>
       wpAny (model prog w) A (call (.builtin "list.append") [.ref D,x]) (fun u_ s₅=>∃ m₁,m₁ < k∧CInv V m ρ s It J q.len I C D m₁ s₅) (fun u_ u_=>False) s₄) (fun u_ u_=>False) s₃
      else ∃ m₁,m₁ < k∧CInv V m ρ s It J q.len I C D m₁ s₃) (fun u_ u_=>False) s₂) (fun u_ u_=>False) s₁') (fun u_ u_=>False) s₁) (fun u_ u_=>False) s':=by
 refine CInv.casesOn hI ?_;clear hI;intro h' tk g' i ys yv σ1 m' oC oI hw1 nw1 r hi hit F N hC off e1 Pc hJ hy hyl;refine hide fun G_ k_=>?_;have hN0:News V.h₀ V.L h' (hw1++nw1):=fun p hp=>N p (.tail _ (.tail _ (.tail _ hp)));(refine aA3 (S.src m r σ1 h' (e1▸Pc.rel F hN0) (hst _ _ _ hJ).1) ?_;intro x hSr hx)
 have hIn:=N (I,oI) (.head _);have offI:∀ p∈(C,oC)::(D,lst ys)::(hw1++nw1),p.1≠I:=fun p hp=>by
  rcases mem_cons.mp hp with rfl | hp
  ·exact Ne.symm ne.1
  rcases mem_cons.mp hp with rfl | hp
  ·exact Ne.symm ne.2.1
  ·exact (off.mem p hp).1
 by_cases hlt:i < q.len
 ·refine k_ ?_;clear k_;refine S.it.item x I i _ _ _ hlt hit hSr fun v h1 tk1 hP hit1 hk1=>?_;refine hide fun G_ k_=>?_;(refine aE8 (aV3 F (fun p hp=>N p (.tail _ hp)) hk1 (Ne.symm hIn.2.1) hIn.2.2 offI) ?_;intro F1 N1)
  (refine aJ9 (S.it.obj _ _ _ hit1) ?_;intro oI1 hoI)
  have N1:News V.h₀ V.L h1 ([(I,oI1)]++(C,oC)::(D,lst ys)::(hw1++nw1)):=fun p hp=>by
   rcases mem_cons.mp hp with rfl | hp
   ·exact ⟨hoI,hIn.2⟩
   ·exact N1 p hp
  (refine aJ9 (Sq.at_lt hlt) ?_;intro c hcq)
  refine k_ ?_;have hcv:=hx i v c hP hcq;replace hcv:=(Eq.symm (e1 ..))▸hcv;refine S.it.go I (i + 1) tg v _ _ _ hit1 ?_;have ht:=hturn i yv σ1 c hJ hcq;clear hturn;obtain rfl:=(hst _ _ _ hJ).2;refine tgt_ok H hc (s:=⟨h1,g'.1,s.drawn,tk1,s.os⟩) htn Pc hcv (fun p hp=>.tail _ (.tail _ (.tail _ hp))) F1 N1 (fun p hp=>?_) hC ht fun h2 tk2 oC2 m₂ l kl F2 N2 hC2 hm=>?_
  ·rcases mem_cons.mp hp with rfl | hp
   ·exact ne.1
   rcases mem_cons.mp hp with rfl | hp
   ·exact Ne.symm ne.2.2
   ·exact (off.mem p hp).2.1
  have H':=VOk.inn (I:=I) (oI:=oI1) (C:=C) (D:=D) (oD:=lst ys) H hc hcl hC2;have R2:=dC1 Pc F2 N2 off ne hm;have fin:∀ (y:AV) (σ3:St) (yv':Value) (r':List Addr) (h3:Heap) (tk3:Nat) (g3:GB g'.1),Rel (V.inn I oI1 C oC2 D (lst ys) m₂) m (nw1.map (·.1)++r') σ3 h3→y.Is V.β (nw1.map (·.1)++r') yv'→J (i + 1) (yv++[y]) (σ3.out σ1.loc) →
    wpAny (model prog w) A (call (.builtin "list.append") [.ref D,yv']) (fun u_ s₅=>∃ m₁,m₁ < q.len + 1 - i∧CInv V m ρ s It J q.len I C D m₁ s₅) (fun u_ u_=>False) ⟨h3,g3.1,s.drawn,tk3,s.os⟩:=by
   intro y σ3 yv' r' h3 tk3 g3 R3 i3 k3;refine hide fun G_ k_=>?_;(refine aM5 (cF4 Pc rfl R3) ?_;intro hw' nw' e' F' N' off' P')
   refine k_ ?_;have zD:=N' (D,lst ys) (.tail _ (.tail _ (.head _)));refine append_at (hsz:=by show ys.toArray.size≤sizeLine;refine rwg (size_toArray ..) ?_;omega) zD.1 fun h5 hs5 hD5=>?_;have ne5:∀ b,b≠D→∀ o,h3.get? b=some o→h5.get? b=some o:=fun b hb o e=>hs5.extBut b o hb e;refine ⟨q.len + 1 - (i + 1),by omega,.mk h5 tk3 (g'.then g3) (i + 1) (ys++[yv']) (yv++[y]) (σ3.out σ1.loc) m₂ oC2 oI1 hw' nw' (r++r') hlt ?_ (F'.change hs5 zD.2.1 zD.2.2) (fun p hp=>?_) hC2 off' (by (refine rwg (e' ..) ?_;refine rwg (e1 ..) ?_;refine rwg (append_assoc ..) ?_;rfl)) P' k3 ?_ (by rw [List.length_append,length_singleton];omega)⟩
   ·exact S.it.keep _ _ _ _ hit1 fun o ho=>ne5 I ne.2.1 o (by replace ho:=(hoI ..)▸ho;obtain rfl:=Option.some.inj ho;exact (N' (I,oI1) (.head _)).1)
   ·rcases mem_cons.mp hp with rfl | hp
    ·exact ⟨ne5 _ ne.2.1 _ (N' _ (.head _)).1,(N' _ (.head _)).2⟩
    rcases mem_cons.mp hp with rfl | hp
    ·exact ⟨ne5 _ ne.2.2 _ (N' _ (.tail _ (.head _))).1,(N' _ (.tail _ (.head _))).2⟩
    rcases mem_cons.mp hp with rfl | hp
    ·exact ⟨hD5.trans (congrArg some (lst_snoc ys yv')),zD.2⟩
    ·have z:=N' p (.tail _ (.tail _ (.tail _ hp)));exact ⟨ne5 _ (off'.mem p hp).2.2 _ z.1,z.2⟩
   ·refine rwg (e' ..) ?_;exact (hy.more r').append (.cons i3 .nil)
  clear k_ ht;cases ct with
  | none =>
   refine wpAny_tests_nil ?_;refine rwg (if_pos rfl ..) ?_;exact (ih _ _ _ H').1 _ _ _ _ _ ⟨h2,g'.1,s.drawn,tk2,s.os⟩ _ _ R2 kl fun y σ3 yv' r' h3 tk3 g3 R3 i3 k3=>fin y σ3 yv' r' h3 tk3 g3 R3 i3 k3
  | some t =>
   refine wpAny_tests_one ((ih _ _ _ H').2 _ _ _ _ _ ⟨h2,g'.1,s.drawn,tk2,s.os⟩ _ _ R2 kl fun b σ2 r2 h3 tk3 g3 R3 k3=>?_);have k3:=aF3 k3;cases b with
   | true =>
    rw [if_pos rfl] at k3 ⊢;exact (ih _ _ _ H').1 _ _ _ _ _ ⟨h3,g3.1,s.drawn,tk3,s.os⟩ _ _ R3 k3 fun y σ3 yv' r' h4 tk4 g4 R4 i4 k4=>fin y σ3 yv' (r2++r') h4 tk4 (g3.then g4) (append_assoc ..▸R4) (append_assoc ..▸i4) k4
   | false =>
    rw [if_neg Bool.false_ne_true] at k3 ⊢;refine hide fun G_ k_=>?_;(refine aM5 (cF4 Pc rfl R3) ?_;intro hw' nw' e' F' N' off' P')
    refine k_ ?_;refine ⟨q.len + 1 - (i + 1),by omega,.mk h3 tk3 (g'.then g3) (i + 1) ys yv (σ2.out σ1.loc) m₂ oC2 oI1 hw' nw' (r++r2) hlt ?_ F' N' hC2 off' (by (refine rwg (e' ..) ?_;refine rwg (e1 ..) ?_;refine rwg (append_assoc ..) ?_;rfl)) P' k3 ?_ (by omega)⟩
    ·exact S.it.keep _ _ _ _ hit1 fun o ho=>by replace ho:=(hoI ..)▸ho;obtain rfl:=Option.some.inj ho;exact (N' (I,oI1) (.head _)).1
    ·refine rwg (e' ..) ?_;exact hy.more r2
 ·refine k_ ?_;clear k_ hyl;obtain rfl:i=q.len:=Nat.le_antisymm hi (Nat.not_lt.mp hlt);refine S.it.done x I _ _ _ hit hSr fun h1 tk1 hk1=>?_;refine hide fun G_ k_=>?_;(refine aE8 (aV3 F (fun p hp=>N p (.tail _ hp)) hk1 (Ne.symm hIn.2.1) hIn.2.2 offI) ?_;intro F1 N1)
  refine k_ ?_;exact hR h1 tk1 g' ys yv σ1 m' oC hw1 nw1 r F1 N1 hC off e1 Pc hJ hy
set_option tactic.hygienic true in
theorem bI6 {elt:Expr} {gens:List Comprehension} {pos:Pos} {use:Option (Value→Sem Unit)} {Q:Value→Shared→Prop} (ih:∀ G V env,VOk G prog w A V env→bL5 G prog w A V env n) (H:VOk G prog w A V env) (R:Rel V m ρ σ s.heap) (h:cK2 (ev n) G elt gens scope σ K)
  (fin:∀ (D C:Addr) (h:Heap) (tk:Nat) (g:GB s.gens) (σ':St) (hw' nw':List (Addr × Obj)) (r:List Addr) (m':Str→Option Value),Fr V.h₀ V.L h m→News V.h₀ V.L h (hw'++nw')→Pcs V σ' m hw' nw'→nw'.map (·.1)=ρ++r→h.Ns C m'→V.h₀.get? C=none→C≠V.L→(∀ p∈hw'++nw',p.1≠C)→(∃ a,K a σ'∧a.Is V.β (nw'.map (·.1)) (.ref D))→compPost (model prog w) A E use Q (.ref D) C (.ok .next) ⟨h,g.1,s.drawn,tk,s.os⟩) :
  wpAny (model prog w) A (comprehension (.ListComp elt gens scope pos) scope env (firstIterPos gens pos) (newList []) (firstAsync gens) (firstIter gens env) use) Q E s:=by
 refine hide fun G_ k_=>?_;(refine aA h ?_;intro g hg h)
 obtain rfl:=aF7 hg;(refine aB5 h ?_;intro h1 h)
 replace h1:=(Bool.and_eq_true ..)▸h1;(refine aA h ?_;intro xs hx h)
 (refine aA h ?_;intro ct hct h)
 (refine aB5 h ?_;intro hok h)
 have hc:=cD6 hok;(refine aA3 (bU6 H hc) ?_;intro cl hclos hcl)
 obtain ⟨tg,iter,ifs,asy⟩:=g;have hct:dC2 ifs=some ct:=hct;obtain rfl:=cQ0 hct;have e0:asy=0:=eq_of_beq h1.1;subst e0;have hs:∀ x,foldedSetIterable iter env x=pure x:=by
  intro x;have:=h1.2;dsimp only at this
  clear h hg h1 hx hct;cases iter<;>first | rfl | cases this
 refine k_ ?_;clear k_;refine (?_:wpAny _ _ (comprehension (.ListComp elt [⟨tg,iter,ct.toList,0⟩] scope pos) scope env _ (newList []) false (eval iter env) use) Q E s);refine wpAny_comprehension_free rfl hs hclos hc.kind hc.loc ?_;refine (ih _ _ _ H).1 _ _ _ _ _ _ _ _ R h fun a σ1 v r1 h1 tk1 g1 R1 i1 k1=>?_;refine hide fun G_ k_=>?_;refine cQ8 (E:=E) H.gv (s:=⟨h1,g1.1,s.drawn,tk1,s.os⟩) R1 i1 k1 ?_;intro q st X P Sr It S hk_ hsz hstσ hpy;obtain ⟨J,h0,hst,hturn,hK⟩:=hk_;(refine R1.el ?_;intro hw nw e1 F N Pc)
 refine k_ ?_;refine hpy _ fun o ho hIt=>?_;clear hpy;dsimp only at hIt ⊢
 have hI:(h1.push o).get? h1.objs.size=some o:=Heap.get?_push_size _ ho;have up:∀ b o',h1.get? b=some o'→(h1.push o).get? b=some o':=fun b o' e=>Heap.get?_push_of_some _ e;generalize hH1:h1.push o=H1 at hIt hI up ⊢;have hD:H1.objs.size=h1.objs.size + 1:=by (refine rwb (hH1 ..) ?_;refine rwg (Heap.size_push ..) ?_;rfl)
 refine wpAny_newObj_type (wpAny_newFunctionEnv hc.cell (by intro y hy;simp at hy) (fun h₁ hns₁ hsb₁=>?_) hc.kind);dsimp only at hns₁ hsb₁ ⊢
 generalize hH2:H1.push {cls:=.type "list",dict:=none,data:=.seq ([]:List Value).toArray}=H2 at hns₁ hsb₁ ⊢;have hC:H2.objs.size=H1.objs.size + 1:=by (refine rwb (hH2 ..) ?_;refine rwg (Heap.size_push ..) ?_;rfl)
 have nIC:(@Ne Nat h1.objs.size H2.objs.size):=by (clear hok hclos hg hx hct hsz ho e1 hH1 hI hH2;lia)
 have nID:(@Ne Nat h1.objs.size H1.objs.size):=by (clear hok hclos hg hx hct hsz ho e1 hH1 hI hH2 hC nIC;lia)
 have nCD:(@Ne Nat H2.objs.size H1.objs.size):=by (clear hok hclos hg hx hct hsz ho e1 hH1 hI hD hH2 nIC nID;lia)
 have old:∀ b o,H1.get? b=some o→h₁.get? b=some o:=fun b o e=>hsb₁.extBut b o (ne_of_lt (lt_trans (Heap.lt_size e) (by refine rwg (hC ..) ?_;exact lt_succ_self _))) (Heap.get?_push_of_some _ (hH2▸Heap.get?_push_of_some _ e));have hacc:h₁.get? H1.objs.size=some (lst []):=hsb₁.extBut _ _ (Ne.symm nCD) (Heap.get?_push_of_some _ (hH2▸Heap.get?_push_size _ rfl));have old1:∀ b o,h1.get? b=some o→h₁.get? b=some o:=fun b o e=>old b o (up b o e);have fresh₀:∀ b:Addr,h1.objs.size≤b→V.h₀.get? b=none:=fun b hb=>by
  cases e:V.h₀.get? b with
  | none=>rfl
  | some o'=>exact absurd (Heap.lt_size (F.keep b o' e)) (Nat.not_lt.mpr hb)
 have hLlt:(@LT.lt Nat _ V.L h1.objs.size):=F.ns.lt;have nwlt:∀ p∈hw++nw,(@LT.lt Nat _ p.1 h1.objs.size):=fun p hp=>Heap.lt_size (N p hp).1;(refine aA3 (ns_obj hns₁) ?_;intro oC heC hoC)
 have hD0:=fresh₀ H1.objs.size (by refine rwg (hD ..) ?_;exact le_succ _);have hC0:=fresh₀ H2.objs.size (by (refine rwg (hC ..) ?_;refine rwg (hD ..) ?_);exact Nat.le_succ_of_le (le_succ _));have nCL:H2.objs.size≠V.L:=by intro q;have q:(H2.objs.size:Nat)=V.L:=q;(clear hok hclos hg hx hct hsz ho e1 hH1 hI hH2 nIC nID nCD hacc heC hD0 hC0 q;lia)
 have nDL:H1.objs.size≠V.L:=by intro q;have q:(H1.objs.size:Nat)=V.L:=q;(clear hok hclos hg hx hct hsz ho e1 hH1 hI hH2 hC nIC nID nCD hacc heC hD0 hC0 nCL q;lia)
 have nIL:h1.objs.size≠V.L:=by intro q;have q:(h1.objs.size:Nat)=V.L:=q;(clear hok hclos hg hx hct hsz ho e1 hH1 hI hD hH2 hC nIC nID nCD hacc heC hD0 hC0 nCL nDL q;lia)
 have inv0:CInv V m (ρ++r1) ⟨h1,g1.1,s.drawn,tk1,s.os⟩ It J q.len h1.objs.size H2.objs.size H1.objs.size (q.len + 1) ⟨h₁,g1.1,s.drawn,tk1 + ([]:List (Str × Value)).length,s.os⟩:=by
  refine .mk h₁ _ (.same _) 0 [] [] σ1 _ oC o hw nw [] (zero_le _) (S.it.keep _ _ _ _ hIt fun o' e=>old _ _ e) (F.keeps old1) (fun p hp=>?_) hoC (Off3.of fun p hp=>?_) (by (refine rwg (e1 ..) ?_;refine rwg (append_nil ..) ?_;rfl)) Pc h0 .nil (zero_le _)
  ·rcases mem_cons.mp hp with rfl | hp
   ·exact ⟨old _ _ hI,nIL,fresh₀ _ (le_refl _)⟩
   rcases mem_cons.mp hp with rfl | hp
   ·exact ⟨heC,nCL,hC0⟩
   rcases mem_cons.mp hp with rfl | hp
   ·exact ⟨hacc,nDL,hD0⟩
   ·exact ⟨old1 _ _ (N p hp).1,(N p hp).2⟩
  ·have hlt:=nwlt p hp;exact ⟨ne_of_lt hlt,ne_of_lt (lt_trans hlt (by (clear hok hclos hg hx hct hsz ho e1 hH1 hI hH2 nIC nID nCD hacc hLlt heC hD0 hC0 nCL nDL nIL hlt;lia))),ne_of_lt (lt_trans hlt (by (clear hok hclos hg hx hct hsz ho e1 hH1 hI hH2 hC nIC nID nCD hacc hLlt heC hD0 hC0 nCL nDL nIL hlt;lia)))⟩
 have loop:=bN6 (prog:=prog) (w:=w) (A:=A) (R:=fun r s'=>compPost (model prog w) A E use Q (.ref H1.objs.size) H2.objs.size r s') (elt:=elt) (tg:=tg) (iter:=iter) (ct:=ct) (scope:=scope) (pos:=pos) (acc:=.ref H1.objs.size) (env:=compEnvC scope cl H2.objs.size env)
  (CInv V m (ρ++r1) ⟨h1,g1.1,s.drawn,tk1,s.os⟩ It J q.len h1.objs.size H2.objs.size H1.objs.size)
  (fun k s' hI=>cG5 ih H hc hcl hx S hsz J hst hturn ⟨nIC,nID,nCD⟩ (R:=fun s'=>compPost (model prog w) A E use Q (.ref H1.objs.size) H2.objs.size (.ok .next) s') (fun h tk g ys yv σ2 m' oC hw1 nw1 r F' N' hC' off' e2 P2 hJ hy=>?_) k s' hI) (q.len + 1) inv0
 ·exact codeAny_compStart_list loop (S.it.self _ 0 _ _ _ (S.it.keep _ _ _ _ hIt fun o' e=>old _ _ e) loop)
 ·have hm:=off'.mem;have N2:News V.h₀ V.L h (hw1++(nw1++[(H1.objs.size,lst ys)])):=fun p hp=>by
   replace hp:=(Eq.symm (append_assoc ..))▸hp;rcases mem_append.mp hp with hp | hp
   ·exact N' p (.tail _ (.tail _ hp))
   ·refine rwg (mem_singleton.mp hp ..) ?_;exact N' _ (.tail _ (.head _))
  have P3:Pcs V (σ2.mk' (.list yv)) m hw1 (nw1++[(H1.objs.size,lst ys)]):=by
   have e3:(nw1++[(H1.objs.size,lst ys)]).map (·.1)=nw1.map (·.1)++[H1.objs.size]:=by rw [map_append];rfl
   refine ⟨P2.hW,?_,by refine (?_:(σ2.obj++[_]).length=_);rw [List.length_append,List.length_append,P2.len];rfl,fun n ao a o1 e4 e5=>?_,fun x a e4=>?_,fun c hc=>?_⟩
   ·rw [← append_assoc,map_append,nodup_append];refine ⟨P2.nd,nodup_cons.mpr ⟨not_mem_nil,nodup_nil⟩,fun b hb d hd=>?_⟩;obtain rfl:=mem_singleton.mp hd;rintro rfl;(refine aA6 hb ?_;intro p hp e)
    exact (hm p hp).2.2 e
   ·refine rwg (e3 ..) ?_;have e4:(σ2.obj++[AO.list yv])[n]?=some ao:=e4;by_cases hn:n < σ2.obj.length
    ·replace e4:=(getElem?_append_left hn ..)▸e4;replace e5:=(getElem?_append_left (P2.len▸hn) ..)▸e5;exact (P2.ob n ao a o1 e4 e5).more _
    ·(replace e4:=(getElem?_append_right (Nat.not_lt.mp hn) ..)▸e4;replace e4:=(List.getElem?_singleton ..)▸e4)
     (replace e5:=(getElem?_append_right (P2.len▸Nat.not_lt.mp hn) ..)▸e5;replace e5:=(List.getElem?_singleton ..)▸e5;replace e5:=(Eq.symm (P2.len ..))▸e5)
     split at e4
     ·cases e4
      rw [if_pos (by assumption)] at e5;cases e5
      exact ⟨ys,ys.length,rfl,hy.more _⟩
     ·cases e4
   ·(refine aA3 (P2.lo x a e4) ?_;intro v hv hi')
    exact (aA0 (v) (hv) (e3▸hi'.more _))
   ·(refine rwg (e3 ..) ?_;refine rwg (getElem?_append_left (List.getElem?_eq_some_iff.mp (P2.ce c hc)).1 ..) ?_)
    exact P2.ce c hc
  refine fin _ _ h tk (g1.then g) (σ2.mk' (.list yv)) hw1 (nw1++[(H1.objs.size,lst ys)]) (r1++(r++[H1.objs.size])) m' F' N2 P3 ?_ (hC'.ns (N' _ (.head _)).1) hC0 nCL (fun p hp=>?_) (aA0 (_) (aJ (hK _ _ hJ)) (?_))
  ·(refine rwg (map_append ..) ?_;refine rwg (e2 ..) ?_;refine rwg (append_assoc ..) ?_;refine rwg (append_assoc ..) ?_);rfl
  ·replace hp:=(Eq.symm (append_assoc ..))▸hp;rcases mem_append.mp hp with hp | hp
   ·exact (hm p hp).2.1
   ·refine rwg (mem_singleton.mp hp ..) ?_;exact Ne.symm nCD
  ·refine rwg (map_append ..) ?_;exact bB (by (refine rwg (length_map ..) ?_;refine rwg (P2.len ..) ?_;rfl))
theorem cL7 {elt:Expr} {gens:List Comprehension} {pos:Pos} {Q:Value→Shared→Prop} (ih:∀ G V env,VOk G prog w A V env→bL5 G prog w A V env n) (H:VOk G prog w A V env) (R:Rel V m ρ σ s.heap) (h:cK2 (ev n) G elt gens scope σ K) (hQ:Res V m ρ s K Q):wpAny (model prog w) A (eval (.ListComp elt gens scope pos) env) Q E s:=by
 have hw:=bI6 (pos:=pos) (use:=none) (Q:=Q) (E:=E) ih H R h fun D C h tk g σ' hw' nw' r m' F N P e hC hC0 hCL hne hK=>by
  (refine aA3 hK ?_;clear hK;intro a hK ha)
  refine (aA0 (m') (hC) (fun h' hs=>?_));have F':Fr V.h₀ V.L h' m:=F.change hs hCL hC0;have N':News V.h₀ V.L h' (hw'++nw'):=fun p hp=>⟨hs.extBut _ _ (hne p hp) (N p hp).1,(N p hp).2⟩;have R':=P.rel F' N';rw [e] at R' ha;exact hQ a σ' _ r h' tk g R' ha hK
 refine rwg (eval_ListComp ..) ?_;exact hw
end
end
section
open PySem.W.X
theorem bO {prog:Program} {w:World} {outer:List Env} {E:Value→Shared→Prop} {s:Shared} {l:Addr} {its:Array Value} {n:Nat} {Q:Value→Shared→Prop}
 (hl:s.heap.get? l=some (W.listOf its n)) (hQ:∀ a h',Mem s.heap h' [] [(a,bH4 l)]→Q (.ref a) {s with heap:=h',toks:=s.toks + 1}) :
 wpAny (model prog w) (cA 500 1000 outer) (getAttr (.ref l) (ofString "append") true) Q E s:=by
 refine xrun (P:=fun v nw t'=>∃ a,v=.ref a∧(nw,t')=([(a,bH4 l)],s.toks + 1)) ?_ fun v h' t' nw D p=>?_
 ·clear hQ;obtain ⟨h,g,d,t,os⟩:=s;dsimp only at hl
  unfold W.listOf at hl
  repeat (first | lk | (with_reducible refine x_at ?_))
  x_run
 ·(refine aA3 p ?_;clear p;intro a eo0 e;subst eo0)
  (refine aE8 (Prod.mk.inj e) ?_;intro eo0 eo1;clear e;subst eo0;subst eo1)
  exact hQ _ _ D
theorem cV7 {prog:Program} {w:World} {outer:List Env} {E:Value→Shared→Prop} {s:Shared} {l a:Addr} {v:Value} {its:Array Value} {n:Nat} {Q:Value→Shared→Prop}
 (ha:s.heap.get? a=some (bH4 l)) (hl:s.heap.get? l=some (W.listOf its n))
 (h:∀ h',Heap.SameBut l s.heap h'→h'.get? l=some (W.listOf (its.push v) (n + 1))→Q .none {s with heap:=h'}) (hsz:its.size≤sizeLine) :
 wpAny (model prog w) (cA 500 1000 outer) (call (.ref a) [v]) Q E s:=by
 obtain ⟨hh,g,d,t,os⟩:=s;dsimp only at ha hl h
 refine wpAny_call (x_code ?_);refine (?_:wpAny _ _ (callAny (.ref a) _) _ _ _);refine wpAny_bind (wpAny_load ha ?_);refine (?_:wpAny _ _ (checkBoundCall "list.append" ⟨[.ref l,v],[]⟩ >>= fun u_=>PySem.again (.builtin "list.append" ⟨[.ref l,v],[]⟩)) _ _ _)
 repeat (first | lk | (with_reducible refine x_at ?_))
 refine ⟨plainId_quiet slot_list_append.plain _,codeAny_builtin entry_list_append ?_⟩;refine (?_:wpAny _ _ (updateSeq l (·.push v) >>= fun u_=>ret .none) _ _ _);refine wpAny_bind ?_;refine wpAny_updateSeq hl rfl (wpAny_pure (h _ (Heap.SameBut.update ..) ?_));(refine rwg (Heap.get?_update_self _ hl (by rw [mapSeq_push];rfl) ..) ?_;refine rwg (mapSeq_push ..) ?_;rfl)
end
section
variable {G:Gx} {prog:Program} {w:World} {A:Around} {V:Vw} {m:Str→Option Value} {env:Env} {σ:St} {ρ:List Addr} {s:Shared} {Q:Value→Shared→Prop} {QB:Bool→Shared→Prop} {E:Value→Shared→Prop} {x y:AV} {v u:Value} {K:AV→St→Prop} {n:Nat}
theorem bK4 {b:Expr} {p:Option Expr × Option Expr} (h:cC6 b=some p):∃ q,b=.Slice p.1 p.2 none q:=by
 refine hide fun G_ k_=>?_;(refine aM0 (cE4 h) ?_;intro lo up st q e h)
 refine k_ ?_;cases st with
 | none=>exact ⟨q,(Option.some.inj h:(lo,up)=p)▸e⟩
 | some _=>cases h
theorem aV1 {b:Expr} {p:Expr × Str × Pos} (h:aY4 b=some p):b=.Attribute p.1 p.2.1 p.2.2 :=
 let ⟨o,nm,q,e,h⟩:=cK h
 (Option.some.inj h:(o,nm,q)=p)▸e
theorem aK6 {α:Type} {l:List α} (h:l.isEmpty=true):l=[]:=by
 cases l<;>first | rfl | cases h
theorem cC4 {e:Expr} (h:aK0 e=true):∃ x p,e=.Name x p:=Expr.Name.elim (motive_1:=fun e=>∃ x p,e=.Name x p) e (Nat.eq_of_beq_eq_true h) fun x p=>(aT2 (x) (p) (rfl))
theorem aQ9 {e:Expr} {C:Prop} (h:aK0 e=true) (k:∀ x p,e=.Name x p→C):C:=(cC4 h).elim fun a h=>h.elim (k a)
theorem cJ9 {a:AV} {g v:Value} {β:List Addr} (h:valOf a=some g) (i:a.Is β ρ v):v=g:=by
 cases a<;>cases h
 exact i
theorem bA (H:VOk G prog w A V env) (ih:bL5 G prog w A V env n) {a:Expr} {ops:List CmpOp} {bs:List Expr} {pos:Pos} {K:AV→St→Prop} (R:Rel V m ρ σ s.heap)
  (h:aB4 (aY2 ops) fun op=>aB4 (aY2 bs) fun b=>aG8 (!behindInMarks op b) <| ev n G false a σ fun x σ1=>ev n G false b σ1 fun y σ2=>cmp G σ2 op x y fun c=>K (.bool c) σ2) (hQ:∀ c σ' r h' tk' (g':GB s.gens),Rel V m (ρ++r) σ' h'→K (.bool c) σ'→Q (.bool c) ⟨h',g'.1,s.drawn,tk',s.os⟩) (hT:∀ c σ' r h' tk' (g':GB s.gens),Rel V m (ρ++r) σ' h'→K (.bool c) σ'→QB c ⟨h',g'.1,s.drawn,tk',s.os⟩) :
  wpAny (model prog w) A (eval (.Compare a ops bs pos) env) Q E s∧wpAny (model prog w) A (PySem.isTrue (.Compare a ops bs pos) env (eval (.Compare a ops bs pos) env)) QB E s:=by
 refine hide fun G_ k_=>?_;(refine aA h ?_;intro op h1 ha)
 (refine aA ha ?_;intro b h2 hb)
 (refine aB5 hb ?_;intro h3 h0)
 clear hb ha h;obtain rfl:=aF7 h1;obtain rfl:=aF7 h2;refine k_ ?_;have h3:behindInMarks op b=false:=by cases e:behindInMarks op b<;>rw [e] at h3<;>first | rfl | cases h3
 constructor
 ·refine wpAny_Compare1 (ih.1 _ _ _ _ _ _ _ _ R h0 fun x σ1 v r1 h1 tk1 g1 R1 i1 k1=>?_) h3;refine ih.1 _ _ _ _ _ ⟨h1,g1.1,s.drawn,tk1,s.os⟩ _ _ R1 k1 fun y σ2 u r2 h2 tk2 g2 R2 i2 k2=>?_;replace R2:=(append_assoc ..)▸R2;refine cR3 H.gv (s:=⟨h2,g2.1,s.drawn,tk2,s.os⟩) R2 (append_assoc ..▸i1.more r2) (append_assoc ..▸i2) k2 fun c hc=>hQ c σ2 _ h2 tk2 (g1.then g2) R2 hc
 ·refine wpAny_isTrue_Compare1 (ih.1 _ _ _ _ _ _ _ _ R h0 fun x σ1 v r1 h1 tk1 g1 R1 i1 k1=>?_) h3;refine ih.1 _ _ _ _ _ ⟨h1,g1.1,s.drawn,tk1,s.os⟩ _ _ R1 k1 fun y σ2 u r2 h2 tk2 g2 R2 i2 k2=>?_;replace R2:=(append_assoc ..)▸R2;refine cR3 H.gv (s:=⟨h2,g2.1,s.drawn,tk2,s.os⟩) R2 (append_assoc ..▸i1.more r2) (append_assoc ..▸i2) k2 fun c hc=>wpAny_truthy_bool (hT c σ2 _ h2 tk2 (g1.then g2) R2 hc)
theorem cR9 (H:VOk G prog w A V env) (ih:bL5 G prog w A V env n) {es:List Expr} {f:List AV→AO} {wr:List Value→Sem Value} {pos:Pos} (R:Rel V m ρ σ s.heap) (h:aG8 (es.all aG5) <| evs (ev n G false) es σ fun as σ1=>aG8 (Nat.ble as.length 1000) <| σ1.mkK (f as) fun k=>K (.obj k)) (hQ:Res V m ρ s K Q)
  (hw:∀ as vs σ1 r1 h1 tk1 (g1:GB s.gens),Rel V m (ρ++r1) σ1 h1→AllIs V.β (ρ++r1) as vs→vs.length≤sizeLine→K (.obj σ1.obj.length) (σ1.mk' (f as))→wpAny (model prog w) A (wr vs) Q E ⟨h1,g1.1,s.drawn,tk1,s.os⟩):wpAny (model prog w) A (spliced (backTo pos (starEach es env))) (fun vs s'=>wpAny (model prog w) A (wr vs) Q E s') E s:=by
 (refine aB5 h ?_;intro hp h)
 refine cC (fun e=>ih.1 e m) _ _ _ _ _ _ _ R hp h fun as σ1 vs r1 h1 tk1 g1 R1 i1 k1=>?_;(refine aB5 k1 ?_;intro hz k1)
 exact hw as vs σ1 r1 h1 tk1 g1 R1 i1 (by refine rwb (i1.length ..) ?_;exact le_trans (le_of_ble_eq_true hz) (by refine rwg (sizeLine_eq ..) ?_;decide)) (aJ k1)
theorem bR8 {a:AV} {b:Addr} {v:Value} {β:List Addr} (h:bK3 a=some b) (i:a.Is β ρ v):a=.val (.ref b)∧v=.ref b:=by
 cases a with
 | val x=>cases x<;>cases h;exact ⟨rfl,i⟩
 | _=>cases h
theorem bG9 {a:AV} {b:Addr} {v:Value} {β:List Addr} {C:Prop} (h:bK3 a=some b) (i:a.Is β ρ v) (k:a=.val (.ref b)→v=.ref b→C):C:=k (bR8 h i).1 (bR8 h i).2
theorem cP6 {M:Model} {a l:Addr} {h:Heap} (ho:h.get? a=some (bH4 l)):keeps M (.ref a) h:=(aA0 (.machine) (.inr (.inl rfl)) ((Looks.ld (part:=none) ho).andThen .now))
theorem bm_at {k:Nat} {r:AV} {h:Heap} {hw nw:List (Addr × Obj)} {b:Addr} (P:Pcs V σ m hw nw) (N:News V.h₀ V.L h (hw++nw)) (hb:(nw.map (·.1))[k]?=some b) (hs:σ.obj[k]?.bind AO.bm?=some r):∃ l,h.get? b=some (bH4 l)∧r.Is V.β (nw.map (·.1)) (.ref l):=by
 refine hide fun G_ k_=>?_;(refine aA1 hs ?_;intro ao h1 h2)
 (refine aI8 (P.at N hb h1) ?_;intro o _ ho i)
 refine k_ ?_;clear h1;cases ao<;>cases h2
 refine hide fun G_ k_=>?_;(refine aA3 i ?_;clear i;intro l eo0 i;subst eo0)
 refine k_ ?_;exact (aA0 (l) (ho) (i))
theorem app_bm (H:GV G prog w A V) {b:Addr} {l:Addr} (hb:s.heap.get? b=some (bH4 l)) (R:Rel V m ρ σ s.heap) (hr:x.Is V.β ρ (.ref l)) (hy:y.Is V.β ρ u) (h:app σ x y K) (hQ:Res V m ρ s K Q):wpAny (model prog w) A (call (.ref b) [u]) Q E s:=by
 refine hide fun G_ k_=>?_;obtain ⟨p,hp,hsz,h2⟩:=aU8 h;have h2:=aV4 h2;clear h;(refine aZ5 R hr hp ?_;intro hw nw D vs n eo0 e eo2 F N P hn ho i;subst eo0;subst eo2)
 cases e
 have hN:=N _ (mem_append_right _ (mem_of_getElem? hn));obtain ⟨a1,a2,o',a3⟩:=H.g.ar;refine k_ ?_;refine bC7 (cV7 hb ho (fun h' hb ho'=>?_) (by (refine rwg (size_toArray ..) ?_;refine rwb (i.length ..) ?_);exact hsz)) H.g.hh (by (clear hb k_ hsz hp hn ho hN a2 a3;lia)) a3 (by (clear hb k_ hsz hp hn ho hN a1 a3;lia));have hi:(AO.list (p.2++[y])).Is V.β (nw.map (·.1)) {cls:=.type "list",data:=.seq (vs.toArray.push u) (n + 1)}:=⟨vs++[u],n + 1,by simp,i.append (.cons hy .nil)⟩;exact hQ .none _ _ [] h' _ (.same _) (map_set hn▸((P.set hn hi).rel (F.change hb hN.2.1 hN.2.2) (News.set N P.nd hn hb ho'))).toks rfl h2
theorem cP8 {e v:Expr} (h:cU e=some v):(∃ c k p,e=.Constant c k p∧v=.Constant c k p)∨∃ p,e=.FormattedValue v (-1) none p:=by
 unfold cU at h;cases hb:Nat.beq e.ctorIdx 19 with
 | true =>
  rw [hb] at h;obtain rfl:e=v:=Option.some.inj h;exact .inl (Expr.Constant.elim (motive_1:=fun e=>∃ c k p,e=.Constant c k p∧e=.Constant c k p) e (Nat.eq_of_beq_eq_true hb) fun c k p=>⟨c,k,p,rfl,rfl⟩)
 | false =>
  rw [hb] at h;(refine aM0 (cU0 h) ?_;intro v' c sp p e0 h1)
  clear h
  revert h1
  cases hc:(c==-1) && sp.isNone with
  | false=>intro h1;cases h1
  | true =>
   intro h1;obtain rfl:v'=v:=Option.some.inj h1;rw [Bool.and_eq_true] at hc;(refine rwg (e0 ..) ?_;refine rwg (eq_of_beq hc.1 ..) ?_;refine rwg (Option.isNone_iff_eq_none.mp hc.2 ..) ?_)
   exact .inr ⟨p,rfl⟩
theorem jn_ok (ih:bL5 G prog w A V env n):∀ (es:List Expr) (acc:Str) (σ:St) (Ks:Str→St→Prop) (ρ:List Addr) (s:Shared) (Q:Value→Shared→Prop),Rel V m ρ σ s.heap→jn (ev n G false) es acc σ Ks →
  (∀ x σ' r h' tk' (g':GB s.gens),Rel V m (ρ++r) σ' h'→Ks x σ'→wpAny (model prog w) A (joinParts x []) Q E ⟨h',g'.1,s.drawn,tk',s.os⟩)→wpAny (model prog w) A (joinParts acc (evalEach es env)) Q E s
 | [],acc,σ,Ks,ρ,s,Q,R,h,hQ=>hQ acc σ [] s.heap s.toks (.same _) R.toks h
 | e::es,acc,σ,Ks,ρ,s,Q,R,h,hQ=>by
  (refine aA h ?_;intro e' he h0)
  have key:∀ Q':Value→Shared→Prop,(∀ (x:Str) (t:Tok) σ' r h' tk' (g':GB s.gens),Rel V m (ρ++r) σ' h'→((acc++x).length≤sizeLine∧jn (ev n G false) es (acc++x) σ' Ks)→Q' (.str x t) ⟨h',g'.1,s.drawn,tk',s.os⟩)→wpAny (model prog w) A (eval e env) Q' E s:=by
   intro Q' hQ';clear h;rcases cP8 he with ⟨c,k,p,rfl,rfl⟩ | ⟨p,rfl⟩
   ·refine ih.1 _ _ _ _ _ _ _ _ R h0 fun a σ1 v r1 h1 tk1 g1 R1 i1 k1=>?_;(refine aA k1 ?_;intro x hx k2)
    (refine AV.str_el hx i1 ?_;intro t eo0;clear i1;subst eo0)
    exact hQ' x t σ1 r1 h1 tk1 g1 R1 k2
   ·refine FormattedValue_plain (ih.1 _ _ _ _ _ _ _ _ R h0 fun a σ1 v r1 h1 tk1 g1 R1 i1 k1=>?_);(refine aA k1 ?_;intro x hx k2)
    (refine AV.str_el hx i1 ?_;intro t eo0;clear i1;subst eo0)
    refine wpAny_formatField_str (s:=⟨h1,g1.1,s.drawn,tk1,s.os⟩) (hQ' x t σ1 r1 h1 tk1 g1 R1 k2) (hQ' x _ σ1 r1 h1 _ g1 R1 k2) ?_;have:=k2.1;rw [Str.length_append] at this;(clear he hx k2;lia)
  refine joinParts_cons (key _ fun x t σ1 r1 h1 tk1 g1 R1 k2=>⟨k2.1,?_⟩);refine jn_ok ih es (acc++x) σ1 Ks (ρ++r1) ⟨h1,g1.1,s.drawn,tk1,s.os⟩ Q R1 k2.2 fun x' σ' r h' tk' g' R' k'=>?_;exact hQ x' σ' (r1++r) h' tk' (g1.then g') (append_assoc ..▸R') k'
theorem cX6 (H:VOk G prog w A V env) (ih:bL5 G prog w A V env n) {g:Expr} {args:List Expr} {kws:List Keyword} {p:Pos} (R:Rel V m ρ σ s.heap) (h:evE (ev n) G (.Call g args kws p) σ K) (hQ:Res V m ρ s K Q):wpAny (model prog w) A (eval (.Call g args kws p) env) Q E s:=by
 refine hide fun G_ k_=>?_;(refine aB5 h ?_;intro hk hc)
 clear h;obtain rfl:=aK6 hk;refine k_ ?_;rcases aW0 hc with ⟨⟨o,nm,ap⟩,ha,h⟩ | ⟨_,h⟩
 ·clear hc;refine hide fun G_ k_=>?_;obtain rfl:=aV1 ha;(refine aB5 h ?_;intro hm h0)
  obtain ⟨he,hp⟩:=aQ3 (env:=env) hm;refine k_ ?_;refine MethodCall_ (ih.1 _ _ _ _ _ _ _ _ R h0 fun x σ1 v r1 h1 tk1 g1 R1 i1 k1=>?_) he;refine aB7 k1 (fun xs hx k2=>?_) (fun u_ k2=>?_)
  ·refine hide fun G_ k_=>?_;(refine AV.str_el hx i1 ?_;intro t eo0;clear i1;subst eo0)
   (refine aA k2 ?_;intro id hid k3)
   refine k_ ?_;refine H.g.meth _ _ hid _ _ _ _ _ _ ?_;refine aG4 ih (s:=⟨h1,g1.1,s.drawn,tk1,s.os⟩) R1 hp k3 fun as σ2 vs r2 h2 tk2 g2 R2 i2 k4=>⟨aD9 rfl,?_⟩;exact H.g.call V m _ _ _ _ _ _ ⟨h2,g2.1,s.drawn,tk2,s.os⟩ _ _ rfl rfl H.ov R2 (.cons (aF5 t) i2) k4 ((hQ.step r1 h1 tk1 g1).step r2 h2 tk2 g2)
  refine aB7 k2 (fun a hx k3=>?_) (fun u_ k2=>?_)
  ·refine hide fun G_ k_=>?_;(refine bG9 hx i1 ?_;intro eo0 eo1;clear i1 k1 k2 hx;subst eo0;subst eo1)
   (refine aA k3 ?_;intro f hf k4)
   refine k_ ?_;refine H.g.vmeth V m σ1 a _ f _ ⟨h1,g1.1,s.drawn,tk1,s.os⟩ _ _ _ rfl H.ov R1 hf fun hcb=>?_;refine aG4 ih (s:=⟨h1,g1.1,s.drawn,tk1,s.os⟩) R1 hp k4 fun as σ2 vs r2 h2 tk2 g2 R2 i2 k5=>⟨hcb _ ?_,?_⟩
   ·refine hide fun G_ k_=>?_;(refine R2.el ?_;intro hw nw e F N P)
    refine k_ ?_;exact F.keep
   ·exact H.g.call V m _ _ _ _ _ _ ⟨h2,g2.1,s.drawn,tk2,s.os⟩ _ _ rfl rfl H.ov R2 (.cons (show (AV.val (.ref a)).Is _ _ _ from rfl) i2) k5 ((hQ.step r1 h1 tk1 g1).step r2 h2 tk2 g2)
  ·refine hide fun G_ k_=>?_;(refine aB5 k2 ?_;intro hn k3)
   (refine aB5 k3 ?_;intro hown k4)
   clear k1 k2 k3;clear h ha hm h0 he k2;obtain rfl:nm=_:=eq_of_beq hn;(refine aJ9 (isSome_iff_exists.mp hown) ?_;intro q hq)
   (refine aZ5 R1 i1 hq ?_;intro hw nw D vs k e0 e1 e2 F N P hn' ho _)
   subst e1;refine k_ ?_;refine listMethod_K (s:=⟨h1,g1.1,s.drawn,tk1,s.os⟩) N (mem_append_right _ (mem_of_getElem? hn')) PySem.F.slot_list_append PySem.F.type_list_append ?_;refine aG4 ih (s:=⟨h1,g1.1,s.drawn,tk1,s.os⟩) R1 hp k4 fun as σ2 vs r2 h2 tk2 g2 R2 i2 k5=>⟨aD9 rfl,?_⟩;refine hide fun G_ k_=>?_;(refine aA k5 ?_;intro y hy k6)
   clear k5;obtain rfl:=aF7 hy;refine k_ ?_;refine i2.w1 fun u_ iy=>?_;exact app_ok (s:=⟨h2,g2.1,s.drawn,tk2,s.os⟩) R2 (i1.more r2) iy k6 ((hQ.step r1 h1 tk1 g1).step r2 h2 tk2 g2)
 ·clear hc;refine hide fun G_ k_=>?_;(refine aB5 h ?_;intro hb' h0)
  clear h;rw [Bool.and_eq_true,Bool.and_eq_true] at hb';(refine aQ9 hb'.1.1 ?_;intro nx px eo0;subst eo0)
  refine k_ ?_;refine Call_ (ih.1 _ _ _ _ _ _ _ _ R h0 fun x σ1 v r1 h1 tk1 g1 R1 i1 k1=>?_);refine aB7 k1 (fun f hg k2=>?_) (fun u_ k2=>?_)
  ·refine hide fun G_ k_=>?_;(refine aB5 k2 ?_;intro hf k3)
   clear k2;obtain rfl:=cJ9 hg i1;refine k_ ?_;refine aG4 ih (s:=⟨h1,g1.1,s.drawn,tk1,s.os⟩) R1 hb'.2 k3 fun as σ2 vs r2 h2 tk2 g2 R2 i2 k5=>⟨H.g.fn _ hf _ ?_,?_⟩
   ·refine hide fun G_ k_=>?_;(refine R2.el ?_;intro hw nw e F N P)
    refine k_ ?_;exact F.keep
   ·exact H.g.call V m _ _ _ _ _ _ ⟨h2,g2.1,s.drawn,tk2,s.os⟩ _ _ rfl rfl H.ov R2 i2 k5 ((hQ.step r1 h1 tk1 g1).step r2 h2 tk2 g2)
  ·refine hide fun G_ k_=>?_;(refine aA k2 ?_;intro rc hr k3)
   refine k_ ?_;clear k1 k2;obtain ⟨k,rfl⟩:∃ k,x=.obj k:=by clear i1 k3;cases x<;>first | exact ⟨_,rfl⟩ | cases hr
   refine hide fun G_ k_=>?_;(refine aA3 i1 ?_;clear i1;intro b hb eo0;subst eo0)
   refine k_ ?_;have atb:∀ {r:List Addr} {σ:St} {h:Heap},Rel V m (ρ++r1++r) σ h→σ.obj[k]?.bind AO.bm?=some rc→∃ l,h.get? b=some (bH4 l)∧rc.Is V.β (ρ++r1++r) (.ref l):=fun {r σ h} R hs=>by
    refine hide fun G_ k_=>?_;(refine R.el ?_;intro hw nw e F N P)
    refine k_ ?_;refine rwg (e ..) ?_;refine bm_at P N ?_ hs;(refine rwb (e ..) ?_;refine rwg (getElem?_append_left (List.getElem?_eq_some_iff.mp hb).1 ..) ?_)
    exact hb
   refine aG4 ih (s:=⟨h1,g1.1,s.drawn,tk1,s.os⟩) R1 hb'.2 k3 fun as σ2 vs r2 h2 tk2 g2 R2 i2 k5=>?_;refine hide fun G_ k_=>?_;(refine aE8 k5 ?_;clear k5;intro hbm k6)
   (refine aA3 (atb R2 hbm) ?_;intro l ho ir)
   refine k_ ?_;refine ⟨cP6 ho,?_⟩;refine hide fun G_ k_=>?_;(refine aA k6 ?_;intro y hy k7)
   clear k6;obtain rfl:=aF7 hy;refine k_ ?_;refine i2.w1 fun u_ iy=>?_;exact app_bm H.gv (s:=⟨h2,g2.1,s.drawn,tk2,s.os⟩) ho R2 ir iy k7 ((hQ.step r1 h1 tk1 g1).step r2 h2 tk2 g2)
theorem cM2 (H:VOk G prog w A V env) (ih:bL5 G prog w A V env n) {t a b:Expr} {p:Pos} (R:Rel V m ρ σ s.heap) (h:evE (ev n) G (.IfExp t a b p) σ K) (hQ:Res V m ρ s K Q):wpAny (model prog w) A (eval (.IfExp t a b p) env) Q E s:=by
 refine IfExp_ (ih.2 _ _ _ _ _ _ _ _ R h fun c σ1 r1 h1 tk1 g1 R1 k1=>?_);(refine aA k1 ?_;intro c' hc k2)
 obtain rfl:=Option.some.inj hc;refine aB7 k2 (fun z hz k3=>?_) (fun u_ k3=>?_)
 ·(refine aA1 hz ?_;intro x hx hz)
  (refine aA1 hz ?_;intro y hy hz)
  clear k1 hc k2;cases c with
  | true=>exact cN7 H (s:=⟨h1,g1.1,s.drawn,tk1,s.os⟩) hx R1 fun v tk i=>(hQ.step r1 h1 tk1 g1).same (s:=⟨h1,g1.1,s.drawn,tk1,s.os⟩) R1 (bR5 hz i) k3 tk
  | false=>exact cN7 H (s:=⟨h1,g1.1,s.drawn,tk1,s.os⟩) hy R1 fun v tk i=>(hQ.step r1 h1 tk1 g1).same (s:=⟨h1,g1.1,s.drawn,tk1,s.os⟩) R1 (bR5 hz i) k3 tk
 ·have k3:=aF3 k3;clear k1 hc k2;cases c with
  | true=>exact ih.1 _ _ _ _ _ ⟨h1,g1.1,s.drawn,tk1,s.os⟩ _ _ R1 k3 (hQ.step r1 h1 tk1 g1)
  | false=>exact ih.1 _ _ _ _ _ ⟨h1,g1.1,s.drawn,tk1,s.os⟩ _ _ R1 k3 (hQ.step r1 h1 tk1 g1)
theorem bH9 (H:VOk G prog w A V env) (ih:bL5 G prog w A V env n) {a b:Expr} {p:Pos} (R:Rel V m ρ σ s.heap) (h:evE (ev n) G (.Subscript a b p) σ K) (hQ:Res V m ρ s K Q):wpAny (model prog w) A (eval (.Subscript a b p) env) Q E s:=by
 refine Subscript_ (ih.1 _ _ _ _ _ _ _ _ R h fun x σ1 v r1 h1 tk1 g1 R1 i1 k1=>?_);refine aB7 k1 (fun q hq k2=>?_) (fun u_ k2=>?_)
 ·clear h k1;obtain ⟨pp,rfl⟩:=bK4 hq;refine wpAny_Slice (bP2 ih (s:=⟨h1,g1.1,s.drawn,tk1,s.os⟩) R1 k2 fun i σ2 vi r2 h2 tk2 g2 R2 i2 k2=>?_);refine bP2 ih (s:=⟨h2,g2.1,s.drawn,tk2,s.os⟩) R2 k2 fun j σ3 vj r3 h3 tk3 g3 R3 i3 k3=>?_;refine evalPart_none_step ?_;exact cS6 H.gv (s:=⟨h3,g3.1,s.drawn,tk3,s.os⟩) R3 ((i1.more r2).more r3) (i2.more r3) i3 k3 (((hQ.step r1 h1 tk1 g1).step r2 h2 tk2 g2).step r3 h3 tk3 g3)
 ·obtain ⟨hb,k3⟩:=aL2 k2;refine ih.1 _ _ _ _ _ ⟨h1,g1.1,s.drawn,tk1,s.os⟩ _ _ R1 k3 fun y σ2 u r2 h2 tk2 g2 R2 i2 k2=>?_;exact dB5 H.gv (s:=⟨h2,g2.1,s.drawn,tk2,s.os⟩) hb R2 (i1.more r2) i2 k2 fun a v tk hk hi=>((hQ.step r1 h1 tk1 g1).step r2 h2 tk2 g2).same (s:=⟨h2,g2.1,s.drawn,tk2,s.os⟩) R2 hi hk tk
theorem dB8 (H:VOk G prog w A V env) {op:UnaryOp} (R:Rel V m ρ σ s.heap) (hx:x.Is V.β ρ v) (h:unop G op x σ K) (hQ:Res V m ρ s K Q):wpAny (model prog w) A (unaryOp op v) Q E s:=by
 cases op with
 | Not=>exact not_of (cQ7 H.gv R hx h fun c tk hc=>hQ.same R (a:=.bool _) rfl hc tk)
 | USub =>
  (refine aA (show aB4 x.int? fun k=>K (.int (-k)) σ from h) ?_;intro k hk h2)
  (refine AV.int_el hk hx ?_;intro t eo0;clear hx;subst eo0)
  exact neg_int (hQ.same R (aJ6 _) h2 _)
 | _=>exact (show False from h).elim
theorem evE_ok (ihA:∀ G V env,VOk G prog w A V env→bL5 G prog w A V env n) (H:VOk G prog w A V env) {e:Expr} (R:Rel V m ρ σ s.heap) (h:evE (ev n) G e σ K) (hQ:Res V m ρ s K Q):wpAny (model prog w) A (eval e env) Q E s:=by
 have ih:=ihA _ _ _ H;cases e with
 | Name x p=>exact bN7 H R h fun a v hk hi=>hQ.same R hi hk s.toks
 | Constant c k p =>
  refine hide fun G_ k_=>?_;(refine aA h ?_;intro a ha h)
  refine k_ ?_;exact cR1 ha fun v tk hi=>hQ.same R hi h tk
 | BinOp a op b p =>
  refine wpAny_BinOp (ih.1 _ _ _ _ _ _ _ _ R h fun x σ1 v r1 h1 tk1 g1 R1 i1 k1=>?_);refine ih.1 _ _ _ _ _ ⟨h1,g1.1,s.drawn,tk1,s.os⟩ _ _ R1 k1 fun y σ2 u r2 h2 tk2 g2 R2 i2 k2=>?_;exact bin_ok H.gv (s:=⟨h2,g2.1,s.drawn,tk2,s.os⟩) R2 (i1.more r2) i2 k2 ((hQ.step r1 h1 tk1 g1).step r2 h2 tk2 g2)
 | Compare a ops bs p=>exact (bA (QB:=fun u_ u_=>True) H ih R h (fun c σ' r h' tk' g' R' k'=>hQ (.bool c) _ _ _ _ _ g' R' rfl k') fun u_ u_ u_ u_ u_ u_ u_ u_=>trivial).1
 | UnaryOp op a p =>
  refine wpAny_UnaryOp (ih.1 _ _ _ _ _ _ _ _ R h fun x σ1 v r1 h1 tk1 g1 R1 i1 k1=>?_);exact dB8 H (s:=⟨h1,g1.1,s.drawn,tk1,s.os⟩) R1 i1 k1 (hQ.step r1 h1 tk1 g1)
 | BoolOp op es p =>
  refine hide fun G_ k_=>?_;(refine aA h ?_;intro q hq h0)
  clear h;obtain rfl:=aN0 hq;refine k_ ?_;clear k_;cases op with
  | And =>
   refine BoolOp_and (ih.1 _ _ _ _ _ _ _ _ R h0 fun x σ1 v r1 h1 tk1 g1 R1 i1 k1=>?_);refine hide fun G_ k_=>?_;(refine aA k1 ?_;intro b hb k2)
   (refine aA k2 ?_;intro y hy k3)
   (refine aA k3 ?_;intro d hd k4)
   obtain rfl:=AV.bool_is hb i1;refine k_ ?_;refine wpAny_truthy_bool ?_;clear hb k2 k3 i1 k_;cases b with
   | true =>
    refine BoolOp_one (cN7 H (s:=⟨h1,g1.1,s.drawn,tk1,s.os⟩) hy R1 fun v tk i=>?_);obtain rfl:=AV.bool_is hd i;exact (hQ.step r1 h1 tk1 g1).same (s:=⟨h1,g1.1,s.drawn,tk1,s.os⟩) R1 (a:=.bool d) rfl k4 tk
   | false=>exact (hQ.step r1 h1 tk1 g1).same (s:=⟨h1,g1.1,s.drawn,tk1,s.os⟩) R1 (a:=.bool false) rfl k4 tk1
  | Or =>
   refine BoolOp_or (ih.1 _ _ _ _ _ _ _ _ R h0 fun x σ1 v r1 h1 tk1 g1 R1 i1 k1=>?_);refine hide fun G_ k_=>?_;(refine aA k1 ?_;intro b hb k2)
   (refine aA k2 ?_;intro y hy k3)
   (refine aA k3 ?_;intro d hd k4)
   obtain rfl:=AV.bool_is hb i1;refine k_ ?_;refine wpAny_truthy_bool ?_;clear hb k2 k3 i1 k_;cases b with
   | false =>
    refine BoolOp_one (cN7 H (s:=⟨h1,g1.1,s.drawn,tk1,s.os⟩) hy R1 fun v tk i=>?_);obtain rfl:=AV.bool_is hd i;exact (hQ.step r1 h1 tk1 g1).same (s:=⟨h1,g1.1,s.drawn,tk1,s.os⟩) R1 (a:=.bool d) rfl k4 tk
   | true=>exact (hQ.step r1 h1 tk1 g1).same (s:=⟨h1,g1.1,s.drawn,tk1,s.os⟩) R1 (a:=.bool true) rfl k4 tk1
 | JoinedStr es p =>
  refine hide fun G_ k_=>?_;(refine aB5 h ?_;intro hl h0)
  refine k_ ?_
  match es,hl,h0 with
  | e1::e2::es,_,h0 =>
   refine JoinedStr_many (jn_ok ih (e1::e2::es) _ _ _ _ _ _ R h0 fun x σ' r h' tk' g' R' k'=>?_);exact joinParts_nil (s:=⟨h',g'.1,s.drawn,tk',s.os⟩) (hQ _ σ' _ r h' _ g' R' (aF5 _) k'.2) k'.1
 | Attribute o nm p =>
  refine hide fun G_ k_=>?_;(refine aB5 h ?_;intro hn h0)
  rw [Bool.and_eq_true] at hn;obtain rfl:nm=_:=eq_of_beq hn.1;(refine aQ9 hn.2 ?_;intro x px eo0;subst eo0)
  refine k_ ?_;refine Attribute_name (ih.1 _ _ _ _ _ _ _ _ R h0 fun x σ1 v r1 h1 tk1 g1 R1 i1 k1=>?_);refine hide fun G_ k_=>?_;(refine aB5 k1 ?_;intro ho k2)
  (refine aJ9 (isSome_iff_exists.mp ho) ?_;intro q hq)
  (refine aZ5 R1 i1 hq ?_;intro hw nw D vs k eo0 eo1 e F N P hn' ho' iv;subst eo0;subst eo1)
  obtain ⟨a1,a2,o1,a3⟩:=H.g.ar;refine k_ ?_;refine bC7 (bO (s:=⟨h1,g1.1,s.drawn,tk1,s.os⟩) ho' fun b h' M=>?_) H.g.hh (by (clear hn ho hq k_ e hn' ho' a2 a3;lia)) a3 (by (clear hn ho hq k_ e hn' ho' a1 a3;lia));refine hide fun G_ k_=>?_;(refine aH8 (cM3 F N (fun b o e=>M.keep b o e (by (refine rwg (show PySem.W.X.away [] b=true from rfl) ?_;refine rwg (Bool.or_true ..) ?_;rfl))) (M.nw _ (.head _)).1 (M.nw _ (.head _)).2) ?_;intro F' N' ne)
  refine k_ ?_;have R2:=P.new (ao:=.bm (.obj q.1)) F' N' ne (aA0 (D) (rfl) (by refine rwb (e ..) ?_;exact i1));rw [← e] at R2;exact (hQ.step r1 h1 tk1 g1) _ _ _ [b] h' _ (.same _) R2 (bB (by (refine rwg (e ..) ?_;refine rwg (length_map ..) ?_;refine rwg (P.len ..) ?_;rfl))) (aJ k2)
 | IfExp t a b p=>exact cM2 H ih R h hQ
 | Subscript a b p=>exact bH9 H ih R h hQ
 | List es p =>
  refine List_ (wpAny_mono (cR9 (f:=.list) H ih R h hQ fun as vs σ1 r1 h1 tk1 g1 R1 i1 hz k1=>?_) (fun u_ u_ h=>h) fun u_ u_ h=>h);refine hide fun G_ k_=>?_;(refine R1.el ?_;intro hw nw e F N P)
  refine k_ ?_;rw [e] at i1;refine newList_K (s:=⟨h1,g1.1,s.drawn,tk1,s.os⟩) F N (fun l h2 F2 N2 hlt=>?_) hz;have R2:=P.new (ao:=.list as) F2 N2 (fun p hp=>ne_of_lt (hlt p hp)) ⟨vs,0,rfl,i1⟩;rw [← e] at R2;exact (hQ.step r1 h1 tk1 g1) _ _ _ [l] h2 _ (.same _) R2 (bB (by (refine rwg (e ..) ?_;refine rwg (length_map ..) ?_;refine rwg (P.len ..) ?_;rfl))) k1
 | Tuple es k p =>
  refine Tuple_ (wpAny_mono (cR9 (f:=.tup) H ih R h hQ fun as vs σ1 r1 h1 tk1 g1 R1 i1 hz k1=>?_) (fun u_ u_ h=>h) fun u_ u_ h=>h);refine hide fun G_ k_=>?_;(refine R1.el ?_;intro hw nw e F N P)
  refine k_ ?_;rw [e] at i1;refine wpAny_newTuple (s:=⟨h1,g1.1,s.drawn,tk1,s.os⟩) ?_ hz;have hn:h1.get? h1.objs.size=none:=by
   cases q:h1.get? h1.objs.size with
   | none=>rfl
   | some o=>exact absurd (Heap.lt_size q) (Nat.lt_irrefl _)
  have hb:=cM3 F N (h':=h1.push {cls:=.type "tuple",data:=.seq vs.toArray}) (D:=h1.objs.size) (fun b o x=>Heap.get?_push_of_some _ x) (Heap.get?_push_size _ rfl) hn;have R2:=P.new (ao:=.tup as) hb.1 hb.2.1 hb.2.2 ⟨rfl,vs,0,rfl,i1⟩;rw [← e] at R2;exact (hQ.step r1 h1 tk1 g1) _ _ _ [h1.objs.size] _ _ (.same _) R2 (bB (by (refine rwg (e ..) ?_;refine rwg (length_map ..) ?_;refine rwg (P.len ..) ?_;rfl))) k1
 | Call g args kws p=>exact cX6 H ih R h hQ
 | ListComp elt gens scope p=>exact cL7 ihA H R h hQ
 | _=>exact (show False from h).elim
theorem aO (H:VOk G prog w A V env) (ih:bL5 G prog w A V env n) {e:Expr} (hp:bJ4 e=true) (R:Rel V m ρ σ s.heap) (h:ev n G false e σ fun a σ1=>tru G σ1 a fun c=>K (.bool c) σ1) (hQ:ResB V m ρ s K QB):wpAny (model prog w) A (PySem.isTrue e env (eval e env)) QB E s:=by
 refine isTrue_plain (ih.1 _ _ _ _ _ _ _ _ R h fun x σ1 v r1 h1 tk1 g1 R1 i1 k1=>?_) (by clear h;cases e<;>first | rfl | cases hp);exact cQ7 H.gv (s:=⟨h1,g1.1,s.drawn,tk1,s.os⟩) R1 i1 k1 fun c tk hc=>(hQ.step r1 h1 tk1 g1).same (s:=⟨h1,g1.1,s.drawn,tk1,s.os⟩) R1 hc tk
theorem evT_ok (H:VOk G prog w A V env) (ih:bL5 G prog w A V env n) {e:Expr} (R:Rel V m ρ σ s.heap) (h:evT (ev n G) G e σ K) (hQ:ResB V m ρ s K QB):wpAny (model prog w) A (PySem.isTrue e env (eval e env)) QB E s:=by
 cases e with
 | Compare a ops bs p=>exact (bA (Q:=fun u_ u_=>True) H ih R h (fun u_ u_ u_ u_ u_ u_ u_ u_=>trivial) fun c σ' r h' tk' g' R' k'=>hQ _ _ _ _ _ g' R' k').2
 | UnaryOp op a p =>
  (refine aB5 h ?_;intro ho h0)
  clear h;obtain rfl:op=.Not:=by cases op<;>first | rfl | cases ho
  refine isTrue_not (ih.2 _ _ _ _ _ _ _ _ R h0 fun c σ1 r1 h1 tk1 g1 R1 k1=>?_);(refine aA k1 ?_;intro c' hc k2)
  cases hc
  exact (hQ.step r1 h1 tk1 g1).same (s:=⟨h1,g1.1,s.drawn,tk1,s.os⟩) R1 k2 tk1
 | BoolOp op es p =>
  (refine aA h ?_;intro q hq h0)
  clear h;obtain rfl:=aN0 hq;cases op with
  | And =>
   refine isTrue_and (ih.2 _ _ _ _ _ _ _ _ R h0 fun c σ1 r1 h1 tk1 g1 R1 k1=>?_);have k2:=aF3 k1;clear k1;cases c with
   | true =>
    refine isTrue_and (ih.2 _ _ _ _ _ ⟨h1,g1.1,s.drawn,tk1,s.os⟩ _ _ R1 k2 fun d σ2 r2 h2 tk2 g2 R2 k3=>?_);have k4:=aF3 k3;clear k3;cases d with
    | true=>exact isTrue_and_nil (((hQ.step r1 h1 tk1 g1).step r2 h2 tk2 g2).same (s:=⟨h2,g2.1,s.drawn,tk2,s.os⟩) R2 k4 tk2)
    | false=>exact ((hQ.step r1 h1 tk1 g1).step r2 h2 tk2 g2).same (s:=⟨h2,g2.1,s.drawn,tk2,s.os⟩) R2 k4 tk2
   | false=>exact (hQ.step r1 h1 tk1 g1).same (s:=⟨h1,g1.1,s.drawn,tk1,s.os⟩) R1 k2 tk1
  | Or =>
   refine isTrue_or (ih.2 _ _ _ _ _ _ _ _ R h0 fun c σ1 r1 h1 tk1 g1 R1 k1=>?_);have k2:=aF3 k1;clear k1;cases c with
   | false =>
    refine isTrue_or (ih.2 _ _ _ _ _ ⟨h1,g1.1,s.drawn,tk1,s.os⟩ _ _ R1 k2 fun d σ2 r2 h2 tk2 g2 R2 k3=>?_);have k4:=aF3 k3;clear k3;cases d with
    | false=>exact isTrue_or_nil (((hQ.step r1 h1 tk1 g1).step r2 h2 tk2 g2).same (s:=⟨h2,g2.1,s.drawn,tk2,s.os⟩) R2 k4 tk2)
    | true=>exact ((hQ.step r1 h1 tk1 g1).step r2 h2 tk2 g2).same (s:=⟨h2,g2.1,s.drawn,tk2,s.os⟩) R2 k4 tk2
   | true=>exact (hQ.step r1 h1 tk1 g1).same (s:=⟨h1,g1.1,s.drawn,tk1,s.os⟩) R1 k2 tk1
 | Name x p=>exact aO H ih rfl R h hQ
 | Call g args kws p=>exact aO H ih rfl R h hQ
 | Subscript a b p=>exact aO H ih rfl R h hQ
 | Constant c k p=>exact aO H ih rfl R h hQ
 | _=>exact (show False from h).elim
end
theorem aY3 {prog:Program} {w:World} {A:Around}:∀ (n:Nat) (G:Gx) (V:Vw) (env:Env),VOk G prog w A V env→bL5 G prog w A V env n
 | 0,_,_,_,_=>⟨fun u_ u_ u_ u_ u_ u_ u_ u_ u_ h=>h.elim,fun u_ u_ u_ u_ u_ u_ u_ u_ u_ h=>h.elim⟩
 | n + 1,G,V,env,H=>by
  have ih:=aY3 (prog:=prog) (w:=w) (A:=A) n;refine ⟨fun e m σ K ρ s Q E R h hQ=>?_,fun e m σ K ρ s Q E R h hQ=>evT_ok H (ih _ _ _ H) R h hQ⟩;refine aH6 (show sel (G.isx e) (G.exe e σ K) (evE (ev n) G e σ K) from h) (fun u_ h=>?_) (fun u_ h=>?_)
  ·have:=H.exe [] e m σ K ρ s Q E;replace this:=(Vw.plus_nil ..)▸this;exact this R h hQ
  ·exact evE_ok ih H R h hQ
theorem bL {α β:Type} (f:α→β) (l:List α):∀ sel:List Nat,aP6 (l.map f) sel=(aP6 l sel).map f
 | []=>rfl
 | i::r=>by
  unfold aP6;(refine rwg (getElem?_map ..) ?_;refine rwg (bL f l r ..) ?_)
  cases l[i]?<;>rfl
set_option tactic.hygienic true in
theorem bJ8 {α:Type} {l:List α} {k:Nat}:∀ {sel:List Nat} {j:Nat},(∀ i∈sel,i < l.length)→find? k sel=some j→(aP6 l sel)[j]?=l[k]?
 | i::r,j,hs,h=>by
  unfold find? at h;unfold aP6;have hi:=hs i (.head _);refine rwg (getElem?_eq_getElem hi ..) ?_;dsimp only
  split at h
  ·rename_i e;obtain rfl:=Option.some.inj h;obtain rfl:=eq_of_beq e;refine rwg (getElem?_eq_getElem hi ..) ?_;rfl
  ·(refine aB9 h ?_;intro j' hj eo0;clear h;subst eo0)
   refine rwg (List.getElem?_cons_succ ..) ?_;exact bJ8 (fun i hi=>hs i (.tail _ hi)) hj
theorem bD1 {n0 n:Nat} {sel:List Nat} (h:aM2 n0 n sel=true):n0≤n∧∀ i∈sel,n0≤i∧i < n:=by
 unfold aM2 at h;rw [Bool.and_eq_true,all_eq_true] at h;refine ⟨le_of_ble_eq_true h.1,fun i hi=>?_⟩;have:=h.2 i hi;rw [Bool.and_eq_true] at this;exact ⟨le_of_ble_eq_true this.1,le_of_ble_eq_true this.2⟩
set_option tactic.hygienic true in
theorem cL9 {α:Type} {n0:Nat} {sel:List Nat} {l:List α} {k k':Nat} (hs:aM2 n0 l.length sel=true) (h:ren n0 sel k=some k'):(pick n0 sel l)[k']?=l[k]?:=by
 (refine aE8 (bD1 hs) ?_;intro h1 h2)
 unfold ren at h;split at h
 ·rename_i e;obtain rfl:=Option.some.inj h;have hk:k < n0:=le_of_ble_eq_true e;(refine rwg (getElem?_append_left (by rw [length_take];(clear hs e h;lia)) ..) ?_;refine rwg (List.getElem?_take_of_lt hk ..) ?_;rfl)
 ·(refine aB9 h ?_;intro j hj eo0;subst eo0)
  have hl:(l.take n0).length=n0:=by refine rwg (length_take ..) ?_;(clear hs hj h;lia)
  (refine rwg (getElem?_append_right (by (clear hs h1 hj h;lia)) ..) ?_;refine rwg (hl ..) ?_;refine rwg (Nat.add_sub_cancel_left ..) ?_)
  exact bJ8 (fun i hi=>(h2 i hi).2) hj
theorem aX0 {n0:Nat} {sel:List Nat} {β ρ:List Addr} {a b:AV} {v:Value} (hs:aM2 n0 ρ.length sel=true) (h:bD6 n0 sel a=some b) (i:a.Is β ρ v):b.Is β (pick n0 sel ρ) v:=by
 cases a with
 | obj k =>
  (refine aB9 h ?_;intro k' hk eo0;clear h;subst eo0)
  (refine aA3 i ?_;clear i;intro D hD eo0;subst eo0)
  exact (aA0 (D) (by refine rwg (cL9 hs hk ..) ?_;exact hD) (rfl))
 | _=>obtain rfl:=Option.some.inj h;exact i
theorem bU0 {n0:Nat} {sel:List Nat} {β ρ:List Addr} {as:List AV} {vs:List Value} (hs:aM2 n0 ρ.length sel=true) (i:AllIs β ρ as vs):∀ {bs:List AV},as.mapM (bD6 n0 sel)=some bs→AllIs β (pick n0 sel ρ) bs vs:=by
 induction i with
 | nil =>
  intro bs h;obtain rfl:[]=bs:=by simpa using h
  exact .nil
 | cons a _ ih =>
  intro bs h;rw [mapM_cons] at h;(refine aA1 h ?_;intro x hx h)
  (refine aA1 h ?_;intro ys hy h)
  obtain rfl:x::ys=bs:=Option.some.inj h;exact .cons (aX0 hs hx a) (ih hy)
theorem cU6 {n0:Nat} {sel:List Nat} {β ρ:List Addr} {a b:AO} {o:Obj} (hs:aM2 n0 ρ.length sel=true) (h:bK6 n0 sel a=some b) (i:a.Is β ρ o):b.Is β (pick n0 sel ρ) o:=by
 cases a with
 | list xs =>
  (refine aB9 h ?_;intro ys hy eo0;clear h;subst eo0)
  (refine aG9 i ?_;clear i;intro vs n e i)
  exact ⟨vs,n,e,bU0 hs i hy⟩
 | tup xs =>
  (refine aB9 h ?_;intro ys hy eo0;clear h;subst eo0)
  obtain ⟨c,vs,n,e,i⟩:=i;exact ⟨c,vs,n,e,bU0 hs i hy⟩
 | cell c =>
  (refine aA3 i ?_;clear i;intro v e k)
  obtain rfl:=Option.some.inj h;refine (aA0 (v) (e) (fun a' e'=>?_));(refine aA1 e' ?_;intro a ha hb)
  (refine aA3 (k a ha) ?_;intro v' hv i)
  exact (aA0 (v') (hv) (aX0 hs hb i))
 | bm a =>
  (refine aB9 h ?_;intro b hb eo0;clear h;subst eo0)
  (refine aA3 i ?_;clear i;intro l e i)
  exact (aA0 (l) (e) (aX0 hs hb i))
 | _=>obtain rfl:=Option.some.inj h;exact i
theorem bD3 {α β:Type} {f:α→Option β}:∀ {l:List α} {r:List β},l.mapM f=some r→r.length=l.length∧∀ (n:Nat) (b:β),r[n]?=some b→∃ a,l[n]?=some a∧f a=some b
 | [],r,h=>by
  obtain rfl:[]=r:=by simpa using h
  exact ⟨rfl,fun n b e=>by simp at e⟩
 | a::l,r,h=>by
  rw [mapM_cons] at h;refine hide fun G_ k_=>?_;(refine aA1 h ?_;intro x hx h)
  (refine aA1 h ?_;intro ys hy h)
  obtain rfl:x::ys=r:=Option.some.inj h;(refine aE8 (bD3 hy) ?_;intro h1 h2)
  refine k_ ?_;refine ⟨by (refine rwg (length_cons ..) ?_;refine rwg (length_cons ..) ?_;refine rwg (h1 ..) ?_;rfl),fun n b e=>?_⟩;cases n with
  | zero=>obtain rfl:=Option.some.inj e;exact (aA0 (a) (rfl) (hx))
  | succ n=>exact h2 n b e
theorem bS0 {n0:Nat} {sel:List Nat}:∀ {l r:List (Str × AV)},cV0 n0 sel l=some r→∀ x b,r.lookup x=some b→∃ a,l.lookup x=some a∧bD6 n0 sel a=some b
 | [],r,h,x,b,e=>by obtain rfl:=Option.some.inj h;cases e
 | (y,a)::l,r,h,x,b,e=>by
  refine hide fun G_ k_=>?_;(refine aA1 h ?_;intro c hc h)
  (refine aB9 h ?_;intro r' hr eo0;clear h;clear h;subst eo0)
  refine k_ ?_;rw [lookup_cons] at e ⊢;split at e
  ·clear k_;obtain rfl:=Option.some.inj e;exact (aA0 (a) (rfl) (hc))
  ·exact bS0 hr x b e
set_option tactic.hygienic true in
theorem aK3 {α:Type} {l:List α}:∀ {sel:List Nat} {a:α},a∈aP6 l sel→∃ i∈sel,l[i]?=some a
 | i::r,a,h=>by
  unfold aP6 at h;split at h
  ·rename_i b hb;rcases mem_cons.mp h with rfl | h
   ·exact (aA0 (i) (.head _) (hb))
   ·(refine aA3 (aK3 h) ?_;intro j hj e);exact (aA0 (j) (.tail _ hj) (e))
  ·(refine aA3 (aK3 h) ?_;intro j hj e);exact (aA0 (j) (.tail _ hj) (e))
set_option tactic.hygienic true in
theorem aP2 {α:Type} {l:List α} (hl:l.Nodup):∀ {sel:List Nat},sel.Nodup→(aP6 l sel).Nodup
 | [],_=>nodup_nil
 | i::r,h=>by
  rw [nodup_cons] at h;unfold aP6;split
  ·rename_i b hb;refine nodup_cons.mpr ⟨fun hm=>?_,aP2 hl h.2⟩;(refine aA3 (aK3 hm) ?_;intro j hj e)
   have:=(List.getElem?_inj (List.getElem?_eq_some_iff.mp hb).1 hl).mp (hb.trans e.symm);exact h.1 (this▸hj)
  ·exact aP2 hl h.2
theorem aL7 {α β:Type} (f:α→β) (n0:Nat) (sel:List Nat) (l:List α):pick n0 sel (l.map f)=(pick n0 sel l).map f:=by
 unfold pick;(refine rwg (bL ..) ?_;refine rwg (map_append ..) ?_;refine rwg (List.map_take ..) ?_;rfl)
theorem aN8 {α:Type} {n0:Nat} {sel:List Nat} {l:List α} {a:α} (h:a∈pick n0 sel l):a∈l:=by
 rcases mem_append.mp h with h | h
 ·exact List.mem_of_mem_take h
 ·(refine aA3 (aK3 h) ?_;intro i _ e);exact mem_of_getElem? e
theorem aZ3 {α:Type} {n0:Nat} {sel:List Nat} {l:List α} (hs:aM2 n0 l.length sel=true) (hn:sel.Nodup) (hl:l.Nodup):(pick n0 sel l).Nodup:=by
 (refine aE8 (bD1 hs) ?_;intro h1 h2)
 refine nodup_append.mpr ⟨hl.sublist (List.take_sublist _ _),aP2 hl hn,fun a ha b hb e=>?_⟩;subst e;(refine aA3 (getElem?_of_mem ha |>.elim fun i e=>((aA0 (i) ((List.getElem?_eq_some_iff.mp e).1) (e)):∃ i,i < (l.take n0).length∧(l.take n0)[i]?=some a)) ?_;intro i hi e)
 have hi':i < n0:=lt_of_lt_of_le hi (List.length_take_le _ _);rw [List.getElem?_take_of_lt hi'] at e;(refine aA3 (aK3 hb) ?_;intro j hj e')
 have:=(List.getElem?_inj (List.getElem?_eq_some_iff.mp e).1 hl).mp (e.trans e'.symm);have:=(h2 j hj).1;(clear hs h1 hi e e';lia)
section
variable {V:Vw} {m:Str→Option Value} {σ σ':St} {hw nw:List (Addr × Obj)} {n0:Nat} {sel:List Nat} {h:Heap} {ρ:List Addr}
theorem Pcs.ren (P:Pcs V σ m hw nw) (hs:aM2 n0 nw.length sel=true) (hn:sel.Nodup) (hce:∀ c∈V.cl,c.2.1 < n0) (e:bF2 n0 sel σ=some σ'):Pcs V σ' m hw (pick n0 sel nw):=by
 refine hide fun G_ k_=>?_;(refine aA1 e ?_;intro loc hl e)
 (refine aB9 e ?_;intro obj ho eo0;clear e;subst eo0)
 have hs':aM2 n0 (nw.map (·.1)).length sel=true:=by rwa [length_map]
 have z1:σ.obj=(σ.obj.zip nw).map (·.1):=(List.map_fst_zip (le_of_eq P.len)).symm;have z2:nw=(σ.obj.zip nw).map (·.2):=(List.map_snd_zip (le_of_eq P.len.symm)).symm;have e2:(pick n0 sel nw).map (·.1)=pick n0 sel (nw.map (·.1)):=(aL7 _ _ _ _).symm;(refine aE8 (bD3 ho) ?_;intro l1 l2)
 refine k_ ?_;have nd:=P.nd;rw [map_append,nodup_append] at nd;refine ⟨P.hW,?_,?_,fun n ao a o e1 e3=>?_,fun x a e1=>?_,fun c hc=>?_⟩
 ·rw [map_append,e2,nodup_append];exact ⟨nd.1,aZ3 hs' hn nd.2.1,fun a ha b hb=>nd.2.2 a ha b (aN8 hb)⟩
 ·refine (?_:obj.length=_);have a1:pick n0 sel σ.obj=(pick n0 sel (σ.obj.zip nw)).map (·.1):=by rw [← aL7,← z1]
  have a2:pick n0 sel nw=(pick n0 sel (σ.obj.zip nw)).map (·.2):=by rw [← aL7,← z2]
  (refine rwg (l1 ..) ?_;refine rwg (a1 ..) ?_;refine rwg (a2 ..) ?_;refine rwg (length_map ..) ?_;refine rwg (length_map ..) ?_;rfl)
 ·refine hide fun G_ k_=>?_;(refine aA3 (l2 n ao e1) ?_;intro ao' h1 h2)
  rw [z1,aL7,getElem?_map] at h1;(refine aB9 h1 ?_;intro no0 hq eo1;obtain ⟨q1,q2⟩:=no0;subst eo1)
  refine k_ ?_;have e4:(pick n0 sel nw)[n]?=some q2:=by
   have:pick n0 sel nw=(pick n0 sel (σ.obj.zip nw)).map (·.2):=by (refine rwb (aL7 ..) ?_;refine rwb (z2 ..) ?_;rfl)
   (refine rwg (this ..) ?_;refine rwg (getElem?_map ..) ?_;refine rwg (hq ..) ?_);rfl
  rw [e3] at e4;refine hide fun G_ k_=>?_;clear h1;obtain rfl:=Option.some.inj e4;(refine aJ9 (getElem?_of_mem (aN8 (mem_of_getElem? hq))) ?_;intro i hi)
  (refine aE8 (List.getElem?_zip_eq_some.mp hi) ?_;intro g1 g2)
  refine k_ ?_;refine rwg (e2 ..) ?_;exact cU6 hs' h2 (P.ob i _ _ _ g1 g2)
 ·refine hide fun G_ k_=>?_;(refine aA3 (bS0 hl x a e1) ?_;intro b h1 h2)
  (refine aA3 (P.lo x b h1) ?_;intro v hv i)
  refine k_ ?_;exact (aA0 (v) (hv) (e2▸aX0 hs' h2 i))
 ·refine rwg (e2 ..) ?_;have hlt:=hce c hc;have:=(bD1 hs').1;(refine rwg (getElem?_append_left (by rw [length_take];(clear hs hl ho k_ e hs' z1 z2 e2 l1 nd;lia)) ..) ?_;refine rwg (List.getElem?_take_of_lt hlt ..) ?_)
  exact P.ce c hc
theorem Rel.ren (R:Rel V m ρ σ h) (hs:aM2 n0 ρ.length sel=true) (hn:sel.Nodup) (hce:∀ c∈V.cl,c.2.1 < n0) (e:bF2 n0 sel σ=some σ'):Rel V m (pick n0 sel ρ) σ' h:=by
 refine hide fun G_ k_=>?_;(refine R.el ?_;intro hw nw eo0 F N P;clear R;subst eo0)
 refine k_ ?_;exact ⟨hw,pick n0 sel nw,aL7 _ _ _ _,F,fun p hp=>N p ((mem_append.mp hp).elim (mem_append_left _) fun hp=>mem_append_right _ (aN8 hp)),P.ren (by rwa [length_map] at hs) hn hce e⟩
theorem bE8 {β:List Addr} {k:Nat} {D:Addr} {a:AV} {v:Value} (hk:ρ[k]?=some D) (i:a.Is β ρ v):(aM3 k D a).Is β ρ v:=by
 cases a with
 | obj j =>
  refine (?_:AV.Is β ρ (match j==k with | true=>.fz D | false=>.obj j) v);cases e:j==k with
  | true =>
   obtain rfl:=eq_of_beq e;(refine aA3 i ?_;clear i;intro b hb eo0;subst eo0)
   rw [hk] at hb;obtain rfl:=Option.some.inj hb;rfl
  | false=>exact i
 | _=>exact i
theorem bP8 {β:List Addr} {k:Nat} {D:Addr} {as:List AV} {vs:List Value} (hk:ρ[k]?=some D) (i:AllIs β ρ as vs):AllIs β ρ (as.map (aM3 k D)) vs:=by
 induction i with
 | nil=>exact .nil
 | cons a _ ih=>exact .cons (bE8 hk a) ih
theorem cZ {β:List Addr} {k:Nat} {D:Addr} {a:AO} {o:Obj} (hk:ρ[k]?=some D) (i:a.Is β ρ o):(cR4 k D a).Is β ρ o:=by
 cases a with
 | list xs=>(refine aG9 i ?_;clear i;intro vs n e i);exact ⟨vs,n,e,bP8 hk i⟩
 | tup xs=>obtain ⟨c,vs,n,e,i⟩:=i;exact ⟨c,vs,n,e,bP8 hk i⟩
 | cell c =>
  (refine aA3 i ?_;clear i;intro v e j)
  refine (aA0 (v) (e) (fun a' h=>?_));(refine aB9 h ?_;intro b eo0 eo1;clear h;subst eo0;subst eo1)
  (refine aA3 (j b rfl) ?_;intro v' eo0 i;clear e j;subst eo0)
  exact (aA0 (v') (rfl) (bE8 hk i))
 | bm r=>(refine aA3 i ?_;clear i;intro l e i);exact (aA0 (l) (e) (bE8 hk i))
 | _=>exact i
theorem aY {f:AV→AV}:∀ {l:List (Str × AV)} {x:Str} {b:AV},(l.map fun p=>(p.1,f p.2)).lookup x=some b→∃ a,l.lookup x=some a∧b=f a
 | [],x,b,h=>by cases h
 | (y,a)::r,x,b,h=>by
  rw [map_cons,lookup_cons] at h;refine rwg (lookup_cons ..) ?_;dsimp only at h
  split at h
  ·cases h;exact (aA0 (a) (rfl) (rfl))
  ·exact aY h
theorem Pcs.sub {k:Nat} {D:Addr} (P:Pcs V σ m hw nw) (hk:(nw.map (·.1))[k]?=some D):Pcs V (σ.sub k D) m hw nw:=by
 refine ⟨P.hW,P.nd,by refine (?_:(σ.obj.map _).length=_);refine rwg (length_map ..) ?_;exact P.len,fun n ao a o e1 e2=>?_,fun x a e=>?_,P.ce⟩
 ·have e1:(σ.obj.map (cR4 k D))[n]?=some ao:=e1;rw [getElem?_map] at e1;(refine aB9 e1 ?_;intro ao' h1 eo0;clear e1;clear e1;subst eo0)
  exact cZ hk (P.ob n ao' a o h1 e2)
 ·(refine aA3 (aY e) ?_;intro b hb eo0;clear e;subst eo0)
  (refine aA3 (P.lo x b hb) ?_;intro v hv i)
  exact (aA0 (v) (hv) (bE8 hk i))
theorem cX0 {ao:AO} {β:List Addr} {o:Obj} (ha:dB0 ao=true) (i:ao.Is β ρ o):∀ β' ρ',ao.Is β' ρ' o:=by
 intro β' ρ';cases ao with
 | list xs =>
  (refine aG9 i ?_;clear i;intro vs n e i)
  refine ⟨vs,n,e,?_⟩;replace ha:xs.all aV2=true:=ha;clear e
  induction i with
  | nil=>exact .nil
  | @cons a v _ _ h _ ih =>
   (replace ha:=(all_cons ..)▸ha;replace ha:=(Bool.and_eq_true ..)▸ha)
   refine .cons ?_ (ih ha.2);cases a<;>first | exact h | cases ha.1
 | _=>cases ha
theorem cX9 {α:Type} {l:List α} {a:α} (h:a∈pick n0 sel l):∃ i,l[i]?=some a∧(i < n0∨i∈sel):=by
 rcases mem_append.mp h with h | h
 ·(refine aJ9 (getElem?_of_mem h) ?_;intro i e)
  have hi:i < n0:=lt_of_lt_of_le (List.getElem?_eq_some_iff.mp e).1 (List.length_take_le _ _);rw [List.getElem?_take_of_lt hi] at e;exact (aA0 (i) (e) (.inl hi))
 ·(refine aA3 (aK3 h) ?_;intro i hi e)
  exact (aA0 (i) (e) (.inr hi))
theorem Rel.frz {G:Gx} {prog:Program} {w:World} {A:Around} (H:GV G prog w A V) (R:Rel V m ρ σ h) {k:Nat} {ao:AO} (hk:σ.obj[k]?=some ao) (ha:dB0 ao=true) (h1:n0≤k) (h2:k∉sel) (hs:aM2 n0 ρ.length sel=true) (hn:sel.Nodup) (hce:∀ c∈V.cl,c.2.1 < n0) :
  ∃ a,σ.wd.fz a=none∧∀ σ1,bF2 n0 sel (σ.sub k a)=some σ1→Rel V m (pick n0 sel ρ) ⟨σ1.loc,σ1.obj,σ.wd.add a ao⟩ h:=by
 (refine R.el ?_;intro hw nw eo0 F N P;clear R;subst eo0)
 have hlt:k < nw.length:=P.len▸(List.getElem?_eq_some_iff.mp hk).1;have hkn:nw[k]?=some nw[k]:=getElem?_eq_getElem hlt;generalize nw[k]=p at hkn;obtain ⟨a,o⟩:=p;have hka:(nw.map (·.1))[k]?=some a:=by rw [getElem?_map,hkn];rfl
 (refine aD1 (H.ov _ _ P.hW) ?_;intro pre l0 eo0 w1 w2;subst eo0)
 have nd:=P.nd;rw [map_append,map_append,nodup_append,nodup_append] at nd;(refine aH8 nd ?_;clear nd;intro no0 n4 n5;obtain ⟨n1,n2,n3⟩:=no0)
 have hac:a∈nw.map (·.1):=mem_of_getElem? hka;have haw:a∉pre.map (·.1)∧a∉l0.map (·.1):=⟨fun q=>n5 a (mem_append_left _ q) a hac rfl,fun q=>n5 a (mem_append_right _ q) a hac rfl⟩;refine (aA0 (a) (?_) (fun σ1 e=>?_))
 ·cases e:σ.wd.fz a with
  | none=>rfl
  | some ao' =>
   (refine aA3 (H.g.fz _ _ a ao' w1 e) ?_;intro o' h3 _)
   exact absurd (mem_map_of_mem (f:=Prod.fst) h3) haw.2
 have P2:=(P.sub hka).ren (by rwa [length_map] at hs) hn hce e;have e2:(pick n0 sel nw).map (·.1)=pick n0 sel (nw.map (·.1)):=(aL7 _ _ _ _).symm;refine ⟨pre++(a,o)::l0,pick n0 sel nw,e2.symm,F,fun p hp=>N p ?_,w2 _ _ (H.g.frz _ _ a o ao w1 (cX0 ha (P.ob k ao a o hk hkn))),?_,P2.len,P2.ob,P2.lo,P2.ce⟩
 ·rcases mem_append.mp hp with hp | hp
  ·rcases mem_append.mp hp with hp | hp
   ·exact mem_append_left _ (mem_append_left _ hp)
   ·rcases mem_cons.mp hp with rfl | hp
    ·exact mem_append_right _ (mem_of_getElem? hkn)
    ·exact mem_append_left _ (mem_append_right _ hp)
  ·exact mem_append_right _ (aN8 hp)
 ·have had:a∉pick n0 sel (nw.map (·.1)):=fun q=>by
   (refine aA3 (cX9 q) ?_;intro i hi hi2)
   obtain rfl:=(List.getElem?_inj (List.getElem?_eq_some_iff.mp hi).1 n4).mp (hi.trans hka.symm);rcases hi2 with hi2 | hi2
   ·(clear ha hs haw e2 hi hk h2 hlt hkn hka e;lia)
   ·exact h2 hi2
  rw [map_append,map_append,map_cons,e2,nodup_append,nodup_append,nodup_cons];refine ⟨⟨n1,⟨haw.2,n2⟩,fun x hx y hy=>?_⟩,aZ3 hs hn n4,fun x hx y hy=>?_⟩
  ·clear hkn hka hac e had;rcases mem_cons.mp hy with rfl | hy
   ·rintro rfl;exact haw.1 hx
   ·exact n3 x hx y hy
  ·rcases mem_append.mp hx with hx | hx
   ·exact n5 x (mem_append_left _ hx) y (aN8 hy)
   ·clear hkn hka hac haw e;rcases mem_cons.mp hx with rfl | hx
    ·rintro rfl;exact had hy
    ·exact n5 x (mem_append_right _ hx) y (aN8 hy)
end
inductive FlIs (β ρ:List Addr):Fl→Flow→Prop
 | next:FlIs β ρ .next .next
 | brk:FlIs β ρ .brk .brk
 | cont:FlIs β ρ .cont .cont
 | ret {a v} (h:a.Is β ρ v):FlIs β ρ (.ret a) (.ret v)
noncomputable abbrev ResF (V:Vw) (ρ:List Addr) (s:Shared) (K:Fl→St→Prop) (Q:Flow→Shared→Prop):Prop :=
 ∀ (fl:Fl) (σ':St) (f:Flow) (m':Str→Option Value) (r:List Addr) (h':Heap) (tk':Nat) (g':GB s.gens),Rel V m' (ρ++r) σ' h'→FlIs V.β (ρ++r) fl f→K fl σ'→Q f ⟨h',g'.1,s.drawn,tk',s.os⟩
structure FOk (G:Gx) (prog:Program) (w:World) (A:Around) (V:Vw) (env:Env):Prop where
 v:VOk G prog w A V env
 L:env.locals=V.L
 nm:∀ m x,V.nm m x=m x
noncomputable def XOk (G:Gx) (prog:Program) (w:World) (A:Around) (V:Vw) (env:Env):Prop :=
 ∀ (hx:List (Addr × Obj)) (st:Stmt) (m:Str→Option Value) (σ:St) (K:Fl→St→Prop) (ρ:List Addr) (s:Shared) (Q:Flow→Shared→Prop) (E:Value→Shared→Prop),Rel (V.plus hx) m ρ σ s.heap→G.exo st σ K→ResF (V.plus hx) ρ s K Q→wpAny (model prog w) A (exec st env) Q E s
section
variable {G:Gx} {prog:Program} {w:World} {A:Around} {V:Vw} {m:Str→Option Value} {env:Env} {σ:St} {ρ:List Addr} {s:Shared} {Q:Flow→Shared→Prop} {E:Value→Shared→Prop} {K:Fl→St→Prop} {n:Nat} {a:AV} {v:Value}
theorem ResF.step (hQ:ResF V ρ s K Q) (r:List Addr) (h':Heap) (tk':Nat) (g':GB s.gens):ResF V (ρ++r) ⟨h',g'.1,s.drawn,tk',s.os⟩ K Q :=
 fun a σ' v m2 r2 h2 tk2 g2 R2 i2 k2=>hQ a σ' v m2 (r++r2) h2 tk2 (g'.then g2) (append_assoc ..▸R2) (append_assoc ..▸i2) k2
theorem ResF.same (hQ:ResF V ρ s K Q) (R:Rel V m ρ σ s.heap) {fl:Fl} {f:Flow} (hf:FlIs V.β (ρ++[]) fl f) (hK:K fl σ) (tk:Nat):Q f ⟨s.heap,s.gens,s.drawn,tk,s.os⟩ :=
 hQ fl σ f m [] s.heap tk (.same _) R.toks hf hK
set_option tactic.hygienic true in
theorem aP5 (x:Str) (a:AV):∀ (l:List (Str × AV)) (y:Str),(cS7 l x a).lookup y=if y==x then some a else l.lookup y
 | [],y=>by
  refine (?_:List.lookup y [(x,a)]=_);refine rwg (lookup_cons ..) ?_;cases y==x<;>rfl
 | (z,c)::r,y=>by
  unfold cS7;split
  ·rename_i hz;obtain rfl:=eq_of_beq hz;(refine rwg (lookup_cons ..) ?_;refine rwg (lookup_cons ..) ?_)
   cases y==z<;>rfl
  ·rename_i hz;(refine rwg (lookup_cons ..) ?_;refine rwg (lookup_cons ..) ?_;refine rwg (aP5 x a r y ..) ?_)
   by_cases hy:y=z
   ·subst hy;refine rwg (hz ..) ?_;simp
   ·(refine rwg (beq_eq_false_iff_ne.mpr hy ..) ?_;rfl)
theorem FOk.plus (H:FOk G prog w A V env) (hx:List (Addr × Obj)):FOk G prog w A (V.plus hx) env:=⟨H.v.plus hx,H.L,H.nm⟩
theorem aJ4 (H:FOk G prog w A V env) {x:Str} {K:St→Prop} {Q:Unit→Shared→Prop} (R:Rel V m ρ σ s.heap) (hv:a.Is V.β ρ v) (h:bI2 G x a σ K)
  (hQ:∀ m' σ' h' tk',Rel V m' ρ σ' h'→(aJ7 G x=true→tk'≠0)→K σ'→Q () ⟨h',s.gens,s.drawn,tk',s.os⟩):wpAny (model prog w) A (storeName env x v) Q E s:=by
 (refine aA h ?_;intro k hk h)
 have hn:env.kindOf x=some k:=by refine (?_:env.scope.names.lookup x=_);refine rwg (H.v.scope ..) ?_;exact hk
 have hkind:env.scope.kind=.function:=H.v.scope▸H.v.kind;(refine R.el ?_;intro hw nw eo0 F N P;clear R;subst eo0)
 cases k with
 | «local» =>
  refine wpAny_storeName_local hn (H.L.symm▸F.ns) (fun h' hns hs=>?_) (by refine rwg (hkind ..) ?_;rfl);rw [H.L] at hns hs;refine hQ (fun y=>if y=x then some v else m y) (σ.put x a) h' _ (Pcs.rel ⟨P.hW,P.nd,P.len,P.ob,fun y b hb=>?_,P.ce⟩ (F.set hns hs) (N.set hs)) (fun u_=>Nat.succ_ne_zero _) (cJ6 h);have hb:(cS7 σ.loc x a).lookup y=some b:=hb;replace hb:=(aP5 ..)▸hb;refine rwg (H.nm ..) ?_;by_cases hy:y=x
  ·clear h hQ hk hn;clear h;subst hy;rw [if_pos (by simp)] at hb;cases hb
   exact (aA0 (v) (by (refine rwg (if_pos rfl ..) ?_;rfl)) (hv))
  ·rw [if_neg (by simpa using hy)] at hb;(refine aA3 (P.lo y b hb) ?_;intro u hu i)
   replace hu:=(H.nm ..)▸hu;exact (aA0 (u) (by refine rwg (if_neg hy ..) ?_;exact hu) (i))
 | cell =>
  (refine aA h ?_;intro j hj h)
  (refine aB5 h ?_;intro hc h)
  (refine aA3 (H.v.cell x j hj (.inl hk)) ?_;intro c hcl hlk)
  unfold bR6 at hc;cases hs:σ.obj[j]? with
  | none=>replace hc:=(hs ..)▸hc;cases hc
  | some ao =>
   replace hc:=(hs ..)▸hc;(refine aI8 (P.at N (P.ce _ hcl) hs) ?_;intro o hp ho i)
   clear hs;cases ao<;>first | cases hc | skip
   (refine aA3 i ?_;clear i;intro v0 hd _)
   have hN:=N _ (mem_append_right _ (mem_of_getElem? hp));refine wpAny_storeName_cell hkind hn hlk (aA0 (o) (ho) (hd)) fun h' hv' hs'=>?_;(refine aA3 hv' ?_;clear hv';intro o' ho' hd')
   have hi:(AO.cell (some a)).Is V.β (nw.map (·.1)) o':=(aA0 (some v) (hd') (fun a' e=>by cases e;exact (aA0 (v) (rfl) (hv))));exact hQ m (σ.set j (.cell (some a))) h' _ (map_set hp▸(P.set hp hi).rel (F.change hs' hN.2.1 hN.2.2) (News.set N P.nd hp hs' ho')) (fun hl=>by unfold aJ7 at hl;replace hl:=(hk ..)▸hl;cases hl) (aV4 h)
 | _=>exact h.elim
end
section
variable {G:Gx} {prog:Program} {w:World} {A:Around} {V:Vw} {m:Str→Option Value} {env:Env} {σ:St} {ρ:List Addr} {s:Shared} {E:Value→Shared→Prop} {n:Nat} {a:AV} {v:Value}
theorem aO2 (H:FOk G prog w A V env) {Q:Unit→Shared→Prop}:∀ {xs:List Str} {fs:List (Value→Sem Unit)},Sts (model prog w) A env xs fs→∀ (as:List AV) (vs:List Value) (m:Str→Option Value) (σ:St) (K:St→Prop) (s:Shared),Rel V m ρ σ s.heap→AllIs V.β ρ as vs→aM G xs as σ K →
  (∀ m' σ' h' tk',Rel V m' ρ σ' h'→K σ'→Q () ⟨h',s.gens,s.drawn,tk',s.os⟩)→wpAny (model prog w) A (assignInOrder fs vs) Q E s:=by
 intro xs fs S
 induction S with
 | nil =>
  intro as vs m σ K s R i h hQ;cases i with
  | nil=>exact assignInOrder_nil (hQ m σ s.heap s.toks R h)
  | cons=>exact h.elim
 | cons hf _ ih =>
  intro as vs m σ K s R i h hQ;cases i with
  | nil=>exact h.elim
  | cons i is =>
   refine assignInOrder_cons (hf _ _ _ _ (aJ4 H R i h fun m' σ' h' tk' R' u_ k'=>?_));exact ih _ _ _ _ K ⟨h',s.gens,s.drawn,tk',s.os⟩ R' is k' hQ
theorem cS1 (H:FOk G prog w A V env) {t:Expr} {K:St→Prop} {Q:Unit→Shared→Prop} (R:Rel V m ρ σ s.heap) (h:asg G t a σ K) (hv:a.Is V.β ρ v)
  (hQ:∀ m' σ' h' tk',Rel V m' ρ σ' h'→K σ'→Q () ⟨h',s.gens,s.drawn,tk',s.os⟩):wpAny (model prog w) A (assign t env v) Q E s:=by
 refine aB7 h (fun ts ht h=>?_) (fun u_ h=>?_)
 ·refine hide fun G_ k_=>?_;(refine aA h ?_;intro as hs h1)
  (refine aA h1 ?_;intro xs hx h1)
  (refine aB5 h1 ?_;intro hl h2)
  have hl:xs.length=as.length:=eq_of_beq hl;(refine bG0 ht ?_;intro k p eo0;clear h ht;clear h;subst eo0)
  (refine aD1 (cT3 H.v.gv R hv hs) ?_;intro l vs eo0 hlst i;clear hv;subst eo0)
  (refine aH8 (aN6 (M:=model prog w) (A:=A) (env:=env) ts xs hx) ?_;intro S e1 e2)
  (refine R.el ?_;intro hw nw eo0 F N P;clear R;subst eo0)
  refine k_ ?_;have e3:(assignEach ts env).length=(toArray vs).size:=by (refine rwg (e2 ..) ?_;refine rwg (hl ..) ?_;refine rwg (size_toArray ..) ?_;refine rwg (i.length ..) ?_;rfl)
  rcases hlst with hlst | hlst
  ·exact kun_list F N hlst H.v.g.hh e3 e1 fun h' F' N'=>aO2 H S _ _ m σ K ⟨h',s.gens,s.drawn,s.toks,s.os⟩ (P.rel F' N') i h2 hQ
  ·exact unpackN_ F N hlst H.v.g.hh e3 e1 fun h' F' N'=>aO2 H S _ _ m σ K ⟨h',s.gens,s.drawn,s.toks,s.os⟩ (P.rel F' N') i h2 hQ
 ·refine hide fun G_ k_=>?_;(refine aA h ?_;intro x hx h)
  (refine aI1 hx ?_;intro p eo0;clear h hx;clear h;subst eo0)
  refine k_ ?_;exact wpAny_assign_Name (aJ4 H R hv h fun m' σ' h' tk' R' u_ k'=>hQ m' σ' h' tk' R' k')
noncomputable def aJ5 (G:Gx) (prog:Program) (w:World) (A:Around) (V:Vw) (env:Env) (n:Nat):Prop :=
 ∀ (sts:List Stmt) (m:Str→Option Value) (σ:St) (K:Fl→St→Prop) (ρ:List Addr) (s:Shared) (Q:Flow→Shared→Prop) (E:Value→Shared→Prop),Rel V m ρ σ s.heap→ex G n sts σ K→ResF V ρ s K Q→wpAny (model prog w) A (execs sts env) Q E s
theorem inp_ok {op:Operator} {x y:AV} {u:Value} {K:AV→Prop} {Q:Value→Shared→Prop} {β:List Addr} (hx:x.Is β ρ v) (hy:y.Is β ρ u) (h:inp op x y K) (hQ:∀ a v tk,K a→a.Is β ρ v→Q v ⟨s.heap,s.gens,s.drawn,tk,s.os⟩) :
  wpAny (model prog w) A (inplaceOp op v u) Q E s:=by
 (refine aB5 h ?_;intro ho h)
 obtain rfl:op=.Add:=by clear h;clear h;cases op<;>first | rfl | cases ho
 refine aB7 h (fun i hi h=>?_) (fun u_ h=>?_)
 ·(refine aA h ?_;intro j hj h)
  (refine AV.int_el hi hx ?_;intro t1 eo0;clear hx;subst eo0)
  (refine AV.int_el hj hy ?_;intro t2 eo0;clear hy;subst eo0)
  exact iadd_int (hQ _ _ _ h (aJ6 _))
 ·(refine aA h ?_;intro i hi h)
  (refine aA h ?_;intro j hj h)
  (refine AV.str_el hi hx ?_;intro t1 eo0;clear hx;subst eo0)
  (refine AV.str_el hj hy ?_;intro t2 eo0;clear hy;subst eo0)
  exact iadd_str (fun u_ u_=>hQ _ _ _ h.2 (aF5 _)) h.1
theorem aO0 {e:Expr} (h:(!aZ4 e)=true) (t:Option Expr) (n:Nat) (env:Env):swapsWith e t n env=pure false:=by
 cases e<;>first | rfl | cases h
set_option tactic.hygienic true in
theorem aN1 (ih:aJ5 G prog w A V env n) {rest:List Stmt} {K:Fl→St→Prop} {Q:Flow→Shared→Prop} (hQ:ResF V ρ s K Q) :
  ResF V ρ s (aE3 K fun σ2=>ex G n rest σ2 K) (fun f s'=>match f with | .next=>wpAny (model prog w) A (execs rest env) Q E s' | f=>Q f s'):=by
 intro fl σ' f m' r h' tk' g' R i k;cases i with
 | next=>exact ih rest m' σ' K (ρ++r) ⟨h',g'.1,s.drawn,tk',s.os⟩ Q E R k (hQ.step r h' tk' g')
 | brk=>exact hQ _ _ _ _ r h' tk' g' R .brk k
 | cont=>exact hQ _ _ _ _ r h' tk' g' R .cont k
 | ret hv=>exact hQ _ _ _ _ r h' tk' g' R (.ret hv) k
theorem Pcs.hide {hw nw:List (Addr × Obj)} {I:Addr} {oI:Obj} (P:Pcs V σ m hw nw) (ne:∀ p∈hw++nw,p.1≠I):Pcs (V.plus [(I,oI)]) σ m ((I,oI)::hw) nw :=
 ⟨(aA0 (hw) (rfl) (P.hW)),by
  rw [cons_append,map_cons,nodup_cons];refine ⟨fun hm=>?_,P.nd⟩;(refine aA6 hm ?_;intro p hp e)
  exact ne p hp e,P.len,P.ob,P.lo,P.ce⟩
theorem Rel.bare {h:Heap} {I:Addr} {oI:Obj} (R:Rel (V.plus [(I,oI)]) m ρ σ h):∃ hw nw,nw.map (·.1)=ρ∧Fr V.h₀ V.L h m∧News V.h₀ V.L h ((I,oI)::(hw++nw))∧Pcs V σ m hw nw∧∀ p∈hw++nw,p.1≠I:=by
 refine hide fun G_ k_=>?_;(refine R.el ?_;intro hw' nw eo0 F N P;clear R;subst eo0)
 (refine aA3 (P.hW) ?_;intro hw eo0 hW;subst eo0)
 refine k_ ?_;have nd:=P.nd;rw [append_assoc,List.singleton_append,map_cons,nodup_cons] at nd;exact ⟨hw,nw,rfl,F,N,⟨hW,nd.2,P.len,P.ob,P.lo,P.ce⟩,fun p hp e=>nd.1 (mem_map.mpr (aA0 (p) (hp) (e)))⟩
theorem aR3:∀ {l:List Nat},aP l=true→l.Nodup
 | [],_=>nodup_nil
 | i::r,h=>by
  unfold aP at h;rw [Bool.and_eq_true,Bool.not_eq_true',List.any_eq_false] at h;exact nodup_cons.mpr ⟨fun hm=>h.1 i hm (beq_self_eq_true i),aR3 h.2⟩
theorem Rel.len {h:Heap} (R:Rel V m ρ σ h):σ.obj.length=ρ.length∧∀ c∈V.cl,c.2.1 < ρ.length:=by
 refine hide fun G_ k_=>?_;(refine R.el ?_;intro hw nw eo0 F N P;clear R;subst eo0)
 refine k_ ?_;exact ⟨by (refine rwg (P.len ..) ?_;refine rwg (length_map ..) ?_;rfl),fun c hc=>(List.getElem?_eq_some_iff.mp (P.ce c hc)).1⟩
set_option tactic.hygienic true in
theorem aP8 {l:List (Str × AV)}:∀ {keep:List Str} {y:Str} {b:AV},(keep.filterMap fun x=>(l.lookup x).map (x,·)).lookup y=some b→l.lookup y=some b
 | [],y,b,h=>by cases h
 | x::r,y,b,h=>by
  rw [List.filterMap_cons] at h;cases e:l.lookup x with
  | none=>rw [e] at h;exact aP8 h
  | some c =>
   rw [e] at h;dsimp only [Option.map_some] at h
   rw [lookup_cons] at h;split at h
   ·rename_i hy;(refine rwg (eq_of_beq hy ..) ?_;refine rwg (e ..) ?_);exact h
   ·exact aP8 h
theorem Rel.only {h:Heap} (R:Rel V m ρ σ h) (keep:List Str):Rel V m ρ (σ.only keep) h:=by
 refine hide fun G_ k_=>?_;(refine R.el ?_;intro hw nw eo0 F N P;clear R;subst eo0)
 refine k_ ?_;exact ⟨hw,nw,rfl,F,N,P.hW,P.nd,P.len,P.ob,fun x a hx=>P.lo x a (aP8 hx),P.ce⟩
theorem aU9 (H:GV G prog w A V) {h:Heap} {n0:Nat} {J:St→Prop} (hn:n0=ρ.length) (hc:∀ c∈V.cl,c.2.1 < ρ.length) (k:again n0 J σ):∀ {r:List Addr},Rel V m (ρ++r) σ h→∃ σ' r',Rel V m (ρ++r') σ' h∧J σ':=by
 have pk:∀ (sel:List Nat) (r:List Addr),pick n0 sel (ρ++r)=ρ++aP6 (ρ++r) sel:=fun sel r=>by
  unfold pick;(refine rwg (hn ..) ?_;refine rwg (List.take_left ..) ?_;rfl)
 induction k with
 | here k=>exact fun R=>⟨_,_,R,k⟩
 | ren keep sel σ' h1 h2 h3 =>
  intro r R;rw [Bool.and_eq_true] at h1;have R':=(R.only keep).ren (by refine rwb (R.len.1 ..) ?_;exact h1.1) (aR3 h1.2) (hn▸hc) h2;rw [pk] at R';exact ⟨σ',_,R',h3⟩
 | frz keep k ao sel σ1 h1 hs hk ha h2 _ ih =>
  intro r R;rw [Bool.and_eq_true] at h1 hs;(refine aA3 ((R.only keep).frz H hk ha (le_of_ble_eq_true hs.1) (fun q=>by rw [Bool.not_eq_true',List.any_eq_false] at hs;exact hs.2 k q (beq_self_eq_true k)) (by refine rwb (R.len.1 ..) ?_;exact h1.1) (aR3 h1.2) (hn▸hc)) ?_;intro a e R')
  have R':=R' _ (h2 a);rw [pk] at R';exact ih a e R'
inductive LI (V:Vw) (s:Shared) (nw:List (Addr × Obj)) (len:Nat) (I:Nat→St→Prop) (Z:Nat→Heap→List (Addr × Obj)→Prop):Nat→Shared→Prop
 | mk (h':Heap) (tk:Nat) (g':GB s.gens) (m':Str→Option Value) (i:Nat) (σ2:St) (hw2 nw2:List (Addr × Obj)) (r:List Addr) (hi:i≤len) (hz:Z i h' (hw2++nw2)) (F2:Fr V.h₀ V.L h' m') (N2:News V.h₀ V.L h' (hw2++nw2)) (e:nw2.map (·.1)=nw.map (·.1)++r) (P2:Pcs V σ2 m' hw2 nw2) (hI:I i σ2):LI V s nw len I Z (len + 1 - i) ⟨h',g'.1,s.drawn,tk,s.os⟩
noncomputable def Zl (It:Addr→Nat→Heap→Prop) (a:Addr) (i:Nat) (h:Heap) (l:List (Addr × Obj)):Prop:=It a i h∧∀ p∈l,p.1≠a
set_option tactic.hygienic true in
theorem dA6 (H:FOk G prog w A V env) (ih:aJ5 G prog w A V env n) (ihB:∀ p,aJ5 G prog w A (V.plus [p]) env n) {t:Expr} {b o:List Stmt} {K:Fl→St→Prop} {k:St→Prop} {Q:Flow→Shared→Prop} {EE:Value→Shared→Prop}
  {q:Sq} {st:St→Prop} {X:Type} {P:X→Nat→Value→Prop} {Sr:X→Heap→Prop} {It:Addr→Nat→Heap→Prop} (R:Rel V m ρ σ s.heap) (S:SrcOk G prog w A V ρ q st X P Sr It) (I:Nat→St→Prop) (h0:I 0 σ) (hst:∀ i σ2,I i σ2→st σ2)
  (hturn:∀ i σ2 c,I i σ2→q.At i c→asg G t c σ2 fun σ3=>ex G n b σ3 (aC2 K k (again σ.obj.length (I (i + 1))))) (hdone:∀ σ2,I q.len σ2→ex G n o σ2 (aE3 K k)) (hQ:ResF V ρ s (aE3 K k) Q)
  (oi:Obj) (hoi:oi.isFreed=false) (hIt:It s.heap.objs.size 0 (s.heap.push oi)) :
  codeAny (model prog w) A (.forLoop t (.ref s.heap.objs.size) b o env) (fun r s'=>match r with | .ok f=>Q f s' | .error e=>EE e s') ⟨s.heap.push oi,s.gens,s.drawn,s.toks,s.os⟩:=by
 refine hide fun G_ k_=>?_;(refine R.el ?_;intro hw nw eo0 F N Pc;clear R;subst eo0)
 refine k_ ?_;have hLlt:V.L≠s.heap.objs.size:=ne_of_lt F.ns.lt;have hI0:V.h₀.get? s.heap.objs.size=none:=next_is_new F;have hn0:σ.obj.length=(nw.map (·.1)).length:=by (refine rwg (Pc.len ..) ?_;refine rwg (length_map ..) ?_;rfl)
 have hcl:∀ c∈V.cl,c.2.1 < (nw.map (·.1)).length:=fun c hc=>(List.getElem?_eq_some_iff.mp (Pc.ce c hc)).1;refine codeAny_forLoop_any (LI V s nw q.len I (Zl It s.heap.objs.size)) ?_ (q.len + 1)
  (.mk _ _ (.same _) m 0 σ hw nw [] (zero_le _) ⟨hIt,fun p hp=>ne_of_lt (Heap.lt_size (N p hp).1)⟩ (F.push _) (fun p hp=>News.push F N _ hoi p (.tail _ hp)) (append_nil _).symm Pc h0)
 intro kk s' hx_;refine LI.casesOn hx_ ?_;clear hx_;intro h' tk g' m' i σ2 hw2 nw2 r hi hz F2 N2' e P2 hI;have hit:=hz.1;have ne:=hz.2;clear hz;refine hide fun G_ k_=>?_;(refine aA3 (S.src m' r σ2 h' (e▸P2.rel F2 N2') (hst _ _ hI)) ?_;intro x hSr hx)
 refine k_ ?_;by_cases hlt:i < q.len
 ·refine S.it.item x s.heap.objs.size i _ _ _ hlt hit hSr fun v h1 tk1 hP hit1 hk1=>?_;refine hide fun G_ k_=>?_;(refine aE8 (aV3 F2 N2' hk1 hLlt hI0 ne) ?_;intro F1 N1)
  (refine aJ9 (S.it.obj _ _ _ hit1) ?_;intro oI1 hoI)
  (refine aJ9 (Sq.at_lt hlt) ?_;intro c hcq)
  refine k_ ?_;have hcv:=hx i v c hP hcq;rw [← e] at hcv;have N3:News V.h₀ V.L h1 ((s.heap.objs.size,oI1)::(hw2++nw2)):=fun p hp=>by
   rcases mem_cons.mp hp with rfl | hp
   ·exact ⟨hoI,Ne.symm hLlt,hI0⟩
   ·exact N1 p hp
  refine S.it.go s.heap.objs.size (i + 1) t v _ _ _ hit1 ?_;refine cS1 (H.plus [(s.heap.objs.size,oI1)]) (s:=⟨h1,g'.1,s.drawn,tk1,s.os⟩) ((P2.hide ne).rel F1 N3) (hturn i σ2 c hI hcq) hcv fun m3 σ3 h3 tk3 R3 k3=>?_;refine ihB _ b m3 σ3 _ _ ⟨h3,g'.1,s.drawn,tk3,s.os⟩ _ _ R3 k3 fun fl σ4 f m4 r4 h4 tk4 g4 R4 i4 k4=>?_;rw [e,append_assoc] at R4;have base:Rel V m4 (nw.map (·.1)++(r++r4)) σ4 h4:=by
   refine hide fun G_ k_=>?_;(refine aM5 (R4.bare) ?_;intro hw4 nw4 e4 F4 N4 P4 hne4)
   refine k_ ?_;refine rwb (e4 ..) ?_;exact P4.rel F4 fun p hp=>N4 p (.tail _ hp)
  have next:again σ.obj.length (I (i + 1)) σ4→∃ mm,mm < q.len + 1 - i∧LI V s nw q.len I (Zl It s.heap.objs.size) mm ⟨h4,g4.1,s.drawn,tk4,s.os⟩:=fun k4=>by
   refine hide fun G_ k_=>?_;(refine aG9 (aU9 (H.plus [(s.heap.objs.size,oI1)]).v.gv hn0 hcl k4 R4) ?_;intro σ5 r5 R5 hI5)
   (refine aM5 (R5.bare) ?_;intro hw5 nw5 e5 F5 N5 P5 hne5)
   refine k_ ?_;exact ⟨q.len + 1 - (i + 1),by (clear hoi hLlt hI0 hn0 e hlt hoI k_ e5;omega),.mk h4 tk4 (g'.then g4) m4 (i + 1) σ5 hw5 nw5 r5 hlt ⟨S.it.keep _ _ _ _ hit1 fun o ho=>by rw [hoI] at ho;obtain rfl:=Option.some.inj ho;exact (N5 _ (.head _)).1,hne5⟩ F5 (fun p hp=>N5 p (.tail _ hp)) e5 P5 hI5⟩
  cases i4 with
  | next=>exact next k4
  | cont=>exact next k4
  | brk=>exact hQ .next σ4 .next m4 (r++r4) h4 tk4 (g'.then g4) base .next k4
  | ret hv4=>exact hQ (.ret _) σ4 (.ret _) m4 (r++r4) h4 tk4 (g'.then g4) base (.ret (by (refine rwb (append_assoc ..) ?_;refine rwb (e ..) ?_);exact hv4)) k4
 ·clear k_;obtain rfl:i=q.len:=Nat.le_antisymm hi (Nat.not_lt.mp hlt);refine S.it.done x s.heap.objs.size _ _ _ hit hSr fun h1 tk1 hk1=>?_;refine hide fun G_ k_=>?_;(refine aE8 (aV3 F2 N2' hk1 hLlt hI0 ne) ?_;intro F1 N1)
  refine k_ ?_;refine ih o m' σ2 _ _ ⟨h1,g'.1,s.drawn,tk1,s.os⟩ _ _ (P2.rel F1 N1) (hdone σ2 hI) ?_;refine rwg (e ..) ?_;exact hQ.step r h1 tk1 g'
end
section
open PySem.AutoSeq1 (wpAny_loadPart')
section
variable {prog:Program} {w:World} {A:Around} {E:Value→Shared→Prop} {s:Shared}
theorem aS6 {it l:Addr} {i:Nat} {items:Array Value} {x:Value} {Q:Value→Shared→Prop} (hit:s.heap.IsTupleIter it l i) (hl:s.heap.IsTuple l items) (hx:items[i]?=some x)
  (hQ:∀ h',h'.IsTupleIter it l (i + 1)→Heap.SameBut it s.heap h'→Q x {s with heap:=h'}):wpAny (model prog w) A (Builtin.SmallTypes.nextOf (.ref it)) Q E s:=by
 refine hide fun G_ k_=>?_;(refine aI8 (id hit) ?_;intro o ho hc hd)
 obtain ⟨ol,hol,_,nl,hdl⟩:=hl;refine k_ ?_;refine wpAny_bind (wpAny_callSpecial?_slot (name:=ofString "__next__") hit.typeIs F.slot_tuple_iterator_next (wpAny_call_entry F.slot_tuple_iterator_next hit.typeIs F.entry_tuple_iterator_next ?_ (F.args_tuple_iterator_next_1 _)));refine (?_:wpAny _ _ (field (.ref it) 0 >>= _) _ _ s);refine wpAny_bind (wpAny_field ho hd (x:=.ref l) rfl ?_);refine (?_:wpAny _ _ (if (Value.ref l==Value.none)=true then _ else _) _ _ s);refine rwg (if_neg (show ¬ ((Value.ref l==Value.none)=true) from Bool.false_ne_true) ..) ?_;refine (?_:wpAny _ _ (field (.ref it) 1 >>= _) _ _ s);refine wpAny_bind (wpAny_field ho hd (x:=.int i 0) rfl ?_);refine (?_:wpAny _ _ (seqItems? (.ref l) >>= _) _ _ s);refine wpAny_bind (wpAny_seqItems hol hdl ?_);simp only [Int.toNat_natCast,hx]
 refine wpAny_bind (wpAny_setField ho hd (by simp) (wpAny_pure (aA0 (x) (rfl) (wpAny_pure (hQ _ ?_ (Heap.SameBut.update ..))))));exact (aM1 (_) (Heap.get?_update_self _ ho (Obj.isFreed_of_fields (Obj.data_mapFields hd _))) ((Obj.cls_mapFields ..).trans hc) (by refine rwg (Obj.data_mapFields hd ..) ?_;simp [rawInt]))
theorem aU5 {it l:Addr} {i:Nat} {items:Array Value} {Q:Value→Shared→Prop} (hh:A.handled=none) (hit:s.heap.IsTupleIter it l i) (hl:s.heap.IsTuple l items) (hx:items[i]?=none)
  (hE:∀ h' e,Heap.ExtBut it s.heap h'→(∃ o,h'.get? e=some o∧o.cls=.type "StopIteration")→E (.ref e) {s with heap:=h'}):wpAny (model prog w) A (Builtin.SmallTypes.nextOf (.ref it)) Q E s:=by
 refine hide fun G_ k_=>?_;(refine aI8 (id hit) ?_;intro o ho hc hd)
 obtain ⟨ol,hol,_,nl,hdl⟩:=hl;refine k_ ?_;refine wpAny_bind (wpAny_callSpecial?_slot (name:=ofString "__next__") hit.typeIs F.slot_tuple_iterator_next (wpAny_call_entry F.slot_tuple_iterator_next hit.typeIs F.entry_tuple_iterator_next ?_ (F.args_tuple_iterator_next_1 _)));refine (?_:wpAny _ _ (field (.ref it) 0 >>= _) _ _ s);refine wpAny_bind (wpAny_field ho hd (x:=.ref l) rfl ?_);refine (?_:wpAny _ _ (if (Value.ref l==Value.none)=true then _ else _) _ _ s);refine rwg (if_neg (show ¬ ((Value.ref l==Value.none)=true) from Bool.false_ne_true) ..) ?_;refine (?_:wpAny _ _ (field (.ref it) 1 >>= _) _ _ s);refine wpAny_bind (wpAny_field ho hd (x:=.int i 0) rfl ?_);refine (?_:wpAny _ _ (seqItems? (.ref l) >>= _) _ _ s);refine wpAny_bind (wpAny_seqItems hol hdl ?_);simp only [Int.toNat_natCast,hx]
 refine wpAny_bind (wpAny_rule (wpAny_bind (wpAny_setField ho hd (by simp) ?_)));refine (?_:wpAny _ _ (newExc (.type "StopIteration") [] >>= _) _ _ _);refine wpAny_bind ?_;simp only [newExc,newTuple]
 refine wpAny_bind (wpAny_newObj_type ?_ (by size_fits));refine wpAny_bind (m:=firstArgMember _ _) (wpAny_of_eq (a:=Value.none) (by first | rfl | (simp only [firstArgMember];rfl)) ?_);refine wpAny_newObj_type ?_ (by size_fits);simp only [raiseNew]
 refine wpAny_bind (wpAny_handled ?_);refine rwg (hh ..) ?_;refine wpAny_bind (wpAny_pure (wpAny_throw ?_));exact hE _ _ (((Heap.SameBut.update ..).extBut.push _).push _) (aA0 (_) (Heap.get?_push_size _ rfl) (rfl))
theorem cH2 (hh:A.handled=none) (it l:Addr) (hne:l≠it) (items:Array Value):Draws prog w A it [it,l] items.size (fun i v=>items[i]?=some v) (fun i h=>h.IsTupleIter it l i∧h.IsTuple l items) where
 live:=fun u_ u_ st=>let ⟨o,ho,_⟩:=st.1;⟨o,ho⟩
 frame:=fun u_ u_ u_ st hk=>⟨st.1.at fun o e=>hk it (by simp) o e,st.2.at fun o e=>hk l (by simp) o e⟩
 item:=fun i s Q E hi st hQ=>by
  refine aS6 st.1 st.2 (x:=items[i]) (by simp [hi]) fun h' hit' hs'=>?_;exact hQ _ h' s.toks (by simp [hi]) ⟨hit',st.2.extBut hs'.extBut hne⟩ hs'
 done:=fun s Q E st hE=>aU5 hh st.1 st.2 (by simp) hE
theorem cN1 {M:Model} {A:Around} {E:Value→Shared→Prop} {s:Shared} {α:Type} {a:α} {Q:α→Shared→Prop} (h:∀ c,Q c s):wpAny M A (pure a) Q E s:=wpAny_pure (h a)
theorem bV (l:Addr) (items:Array Value) (n:Nat) (dd:Option Addr) (sl:Array (Option Value)) :
  Meets (Builtin.«enumerate.__new__» ⟨[.type "enumerate",.ref l],[]⟩) (fun u_ R s=>s.heap.get? l=some ⟨.type "tuple",dd,.seq items n,sl⟩ ∧
   R (.ok (.ret (.ref (s.heap.push {cls:=.type "tuple_iterator",data:=.fields #[.ref l,.int 0 0]}).objs.size)))
    {s with heap:=(s.heap.push {cls:=.type "tuple_iterator",data:=.fields #[.ref l,.int 0 0]}).push {cls:=.type "enumerate",data:=.fields #[.none,.bool false,.ref s.heap.objs.size,rawInt 0,.none,.none]}}) :=
 .of_wp fun prog w A R s h=>by
  obtain ⟨hp,g,d,tk,os⟩:=s;(refine aE8 h ?_;clear h;intro hl h)
  have hsub:=sub_enumerate;have hL:Heap.IsTuple (Shared.heap ⟨hp,g,d,tk,os⟩) l items:=⟨_,hl,rfl,n,rfl⟩
  wp_walk using wpAny_loadPart' hl
  refine wpAny_stack_any fun st=>cN1 fun c=>?_;cases c
  ·wp_walk using wpAny_loadPart' hl,wpAny_pyIter_tuple hL
   exact (aA0 (_) (rfl) (h))
  ·wp_walk using wpAny_loadPart' hl,wpAny_pyIter_tuple hL
   exact (aA0 (_) (rfl) (h))
theorem cF9 {l:Addr} {items:Array Value} {Q:Value→Shared→Prop} (hL:s.heap.IsTuple l items)
  (h:∀ h',IsEnum h' (s.heap.objs.size + 1) s.heap.objs.size 0 .none→h'.IsTupleIter s.heap.objs.size l 0→(∀ b o,s.heap.get? b=some o→h'.get? b=some o)→Q (.ref (s.heap.objs.size + 1)) {s with heap:=h'}) :
  wpAny (model prog w) A (call (.type "enumerate") [.ref l]) Q E s:=by
 refine hide fun G_ k_=>?_;obtain ⟨⟨c,dct,dt,sl⟩,hl,hc,n,hd⟩:=hL;replace hc:c=.type "tuple":=hc;replace hd:dt=.seq items n:=hd;subst hc hd;refine k_ ?_;refine callType_new F.called_enumerate (by decide) (F.typeCall_enumerate_1 _) (F.newCall_enumerate_1 _) (fun obj=>F.args_object_init_2 obj _) F.entry_enumerate_new (bV l items n dct sl) ⟨hl,?_⟩;have hz:(s.heap.push {cls:=.type "tuple_iterator",data:=.fields #[.ref l,.int 0 0]}).objs.size=s.heap.objs.size + 1:=Heap.size_push ..;refine (?_:_∧_);refine rwg (hz ..) ?_;have he:IsEnum ((s.heap.push {cls:=.type "tuple_iterator",data:=.fields #[.ref l,.int 0 0]}).push {cls:=.type "enumerate",data:=.fields #[.none,.bool false,.ref s.heap.objs.size,rawInt 0,.none,.none]}) (s.heap.objs.size + 1) s.heap.objs.size 0 .none:=by
  have:=Heap.get?_push_size (s.heap.push {cls:=.type "tuple_iterator",data:=.fields #[.ref l,.int 0 0]}) (o:={cls:=.type "enumerate",data:=.fields #[.none,.bool false,.ref s.heap.objs.size,rawInt 0,.none,.none]}) rfl;rw [hz] at this;exact this
 exact ⟨(aA0 (_) (he) (rfl)),h _ he (aM1 (_) (Heap.get?_push_of_some _ (Heap.get?_push_size _ rfl)) (rfl) (rfl)) fun b o x=>Heap.get?_push_of_some _ (Heap.get?_push_of_some _ x)⟩
end
section
variable {G:Gx} {prog:Program} {w:World} {A:Around} {V:Vw} {m:Str→Option Value} {env:Env} {σ:St} {ρ:List Addr} {s:Shared} {E:Value→Shared→Prop} {n:Nat} {a:AV} {v:Value} {Q:Flow→Shared→Prop} {K:Fl→St→Prop}
theorem bN0 {it e:Expr} (h:bE2 G it=some e):∃ pg pc,it=.Call (.Name (ofString "enumerate") pg) [e] [] pc∧G.glob (ofString "enumerate")=some (.type "enumerate")∧G.cs.names.lookup (ofString "enumerate")=some .globalImplicit∧aG5 e=true:=by
 (refine aM0 (bR9 h) ?_;intro g args kws pc e0 h1)
 clear h;subst e0;(refine aA1 h1 ?_;intro x hx h)
 clear h1;(refine aI1 hx ?_;intro pg eo0;clear hx;subst eo0)
 revert h
 cases hb:x==ofString "enumerate" && kws.isEmpty && args.all aG5 && cG4 (G.glob x) && (G.cs.names.lookup x==some .globalImplicit) with
 | false=>intro h;cases h
 | true =>
  intro h;rw [Bool.and_eq_true,Bool.and_eq_true,Bool.and_eq_true,Bool.and_eq_true] at hb;obtain rfl:=aF7 h;obtain rfl:=aK6 hb.1.1.1.2;obtain rfl:=eq_of_beq hb.1.1.1.1;refine ⟨pg,pc,rfl,?_,eq_of_beq hb.2,by simpa using hb.1.1.2⟩;have h2:=hb.1.2;cases hg:G.glob (ofString "enumerate") with
  | none=>rw [hg] at h2;cases h2
  | some u =>
   rw [hg] at h2;cases u<;>first | (cases h2;done) | skip
   (refine rwg (eq_of_beq (show _=true from h2) ..) ?_;rfl)
theorem cL4 {a b:Obj} {e it:Addr} {hw nw:List (Addr × Obj)} (P:Pcs V σ m hw nw) (h1:∀ p∈hw++nw,p.1≠e) (h2:∀ p∈hw++nw,p.1≠it) (h3:it≠e):Pcs (V.plus [(e,a),(it,b)]) σ m ((e,a)::(it,b)::hw) nw:=by
 have:=(P.hide (I:=it) (oI:=b) h2).hide (I:=e) (oI:=a) (fun p hp=>by
  rcases mem_cons.mp hp with rfl | hp
  ·exact h3
  ·exact h1 p hp)
 rwa [Vw.plus_plus] at this
noncomputable def Ze (e it l:Addr) (vs:List Value) (i:Nat) (h:Heap) (q:List (Addr × Obj)):Prop:=((∃ old,IsEnum h e it i old)∧h.IsTupleIter it l i∧h.IsTuple l (toArray vs))∧(∀ p∈q,p.1≠e)∧∀ p∈q,p.1≠it
set_option tactic.hygienic true in
theorem cQ5 (H:FOk G prog w A V env) (ih:aJ5 G prog w A V env n) (ihB:∀ hy,aJ5 G prog w A (V.plus hy) env n) {ts:List Expr} {kt:Nat} {pt:Pos} {xs:List Str} {b o:List Stmt} {K:Fl→St→Prop} {k:St→Prop} {Q:Flow→Shared→Prop} {EE:Value→Shared→Prop} {l e it:Addr} {ys:List AV} {vs:List Value}
  (hx:ts.mapM aE7=some xs) (hlen:xs.length=2) (R:Rel V m ρ σ s.heap) (hl:∀ h':Heap,(∀ b o,V.h₀.get? b=some o→h'.get? b=some o)→h'.IsTuple l (toArray vs)) (hys:∀ ρ,AllIs V.β ρ ys vs) (I:Nat→St→Prop) (h0:I 0 σ)
  (hturn:∀ i σ2 c,I i σ2→ys[i]?=some c→aM G xs [.int i,c] σ2 fun σ3=>ex G n b σ3 (aC2 K k (again σ.obj.length (I (i + 1))))) (hdone:∀ σ2,I ys.length σ2→ex G n o σ2 (aE3 K k)) (hQ:ResF V ρ s (aE3 K k) Q)
  (h1:Heap) (hk1:∀ b o,s.heap.get? b=some o→h1.get? b=some o) (e1:it=s.heap.objs.size) (e2:e=s.heap.objs.size + 1) (he:IsEnum h1 e it 0 .none) (hit:h1.IsTupleIter it l 0) :
  codeAny (model prog w) A (.forLoop (.Tuple ts kt pt) (.ref e) b o env) (fun r s'=>match r with | .ok f=>Q f s' | .error e=>EE e s') ⟨h1,s.gens,s.drawn,s.toks,s.os⟩:=by
 refine hide fun G_ k_=>?_;(refine R.el ?_;intro hw nw eo0 F N Pc;clear R;subst eo0)
 refine k_ ?_;have hLlt:(@LT.lt Nat _ V.L s.heap.objs.size):=F.ns.lt;have fresh₀:∀ b:Addr,s.heap.objs.size≤b→V.h₀.get? b=none:=fun b hb=>by
  cases e:V.h₀.get? b with
  | none=>rfl
  | some o'=>exact absurd (Heap.lt_size (F.keep b o' e)) (Nat.not_lt.mpr hb)
 have he0:=fresh₀ e (by refine rwg (e2 ..) ?_;exact le_succ _);have hit0:=fresh₀ it (by refine rwg (e1 ..) ?_;exact le_refl _);have heL:V.L≠e:=by refine rwg (e2 ..) ?_;exact ne_of_lt (lt_succ_of_lt hLlt)
 have hitL:V.L≠it:=by refine rwg (e1 ..) ?_;exact ne_of_lt hLlt
 have hei:e≠it:=by (refine rwg (e1 ..) ?_;refine rwg (e2 ..) ?_);exact Nat.succ_ne_self _
 have hn0:σ.obj.length=(nw.map (·.1)).length:=by (refine rwg (Pc.len ..) ?_;refine rwg (length_map ..) ?_;rfl)
 have hcl:∀ c∈V.cl,c.2.1 < (nw.map (·.1)).length:=fun c hc=>(List.getElem?_eq_some_iff.mp (Pc.ce c hc)).1;have hle:V.h₀.get? l≠none:=fun q=>by (refine aA3 (hl V.h₀ fun u_ u_ e=>e) ?_;intro o ho _);replace ho:=(q ..)▸ho;cases ho
 have nle:l≠e:=fun q=>hle (q▸he0);have nli:l≠it:=fun q=>hle (q▸hit0);have hsz:(toArray vs).size=ys.length:=by (refine rwg (size_toArray ..) ?_;refine rwb ((hys []).length) ?_;rfl)
 have W:=WalksT.enumerateD (prog:=prog) (w:=w) (A:=A) (cH2 (A:=A.in1) H.v.g.hh it l nli (toArray vs)) e hei (by simp [hei,Ne.symm nle]) (by simp);have off:∀ {h h':Heap} {m':Str→Option Value} {hw nw:List (Addr × Obj)},(∀ b o,b∉[e,it]→h.get? b=some o→h'.get? b=some o)→Fr V.h₀ V.L h m'→News V.h₀ V.L h (hw++nw)→(∀ p∈hw++nw,p.1≠e)→(∀ p∈hw++nw,p.1≠it)→Fr V.h₀ V.L h' m'∧News V.h₀ V.L h' (hw++nw):=by
  intro h h' m' hw nw hk F N a1 a2;exact ⟨⟨F.ns.at' fun o e=>hk _ o (by simp [heL,hitL]) e,fun b o q=>hk b o (fun z=>by
   rcases mem_cons.mp z with z | z
   ·(replace q:=(z ..)▸q;replace q:=(he0 ..)▸q);cases q
   ·(replace q:=(mem_singleton.mp z ..)▸q;replace q:=(hit0 ..)▸q);cases q) (F.keep b o q),F.above⟩,fun p hp=>⟨hk _ _ (by simp [a1 p hp,a2 p hp]) (N p hp).1,(N p hp).2⟩⟩
 refine codeAny_forLoop_any (LI V s nw ys.length I (Ze e it l vs)) ?_ (ys.length + 1)
  (.mk _ _ (.same _) m 0 σ hw nw [] (zero_le _) ⟨⟨⟨_,he⟩,hit,hl _ fun b o e=>hk1 _ _ (F.keep _ _ e)⟩,fun p hp=>?_,fun p hp=>?_⟩ (F.keeps hk1) (fun p hp=>⟨hk1 _ _ (N p hp).1,(N p hp).2⟩) (append_nil _).symm Pc h0)
 ·intro kk s' hx_;refine LI.casesOn hx_ ?_;clear hx_;intro h' tk g' m' i σ2 hw2 nw2 r hi hz F2 N2 e3 P2 hI;have hst:=hz.1;have ne:=hz.2.1;have ni:=hz.2.2;clear hz;by_cases hlt:i < ys.length
  ·refine W.item i _ _ _ (by refine rwg (hsz ..) ?_;exact hlt) hst fun T vals h1 tk1 hP hT hTt hmid hk1=>?_;refine hide fun G_ k_=>?_;(refine aE8 (off hk1 F2 N2 ne ni) ?_;intro F1 N1)
   refine k_ ?_;refine W.go ts kt pt i T _ _ _ hmid fun h2 hst2 hk2=>?_;have hTw:=W.apart _ _ _ hmid;refine hide fun G_ k_=>?_;(refine aE8 (off hk2 F1 N1 ne ni) ?_;intro F3 N3)
   (refine aH8 hst2 ?_;clear hst2;intro no0 hIt hTl;obtain ⟨old,hE⟩:=no0)
   (refine aA3 (id hIt) ?_;intro oi hoi hoi2)
   refine k_ ?_;have hT2:IsTup h2 T vals:=by (refine aA3 hTt ?_;clear hTt;intro ot h3 h4);exact (aA0 (ot) (hk2 _ _ hTw h3) (h4))
   refine hide fun G_ k_=>?_;(refine aG9 hP ?_;clear hP;intro t x hPx eo0;clear hTt;subst eo0)
   obtain ⟨c,hc⟩:∃ c,ys[i]?=some c:=⟨_,getElem?_eq_getElem hlt⟩;(refine aA3 ((hys (nw2.map (·.1))).get hc) ?_;intro u hu iu)
   have hPx:(toArray vs)[i]?=some x:=hPx;(replace hPx:=(getElem?_toArray ..)▸hPx;replace hPx:=(hu ..)▸hPx)
   obtain rfl:=Option.some.inj hPx;have hts:=hturn i σ2 c hI hc;(refine aH8 (aN6 (M:=model prog w) (A:=A) (env:=env) ts xs hx) ?_;intro S es1 es2)
   refine k_ ?_;have Nt:News V.h₀ V.L h2 (((e,({cls:=.type "enumerate",dict:=none,data:=.fields #[.none,.bool false,.ref it,rawInt ((i + 1:Nat):Int),.none,old],slots:=#[]}:Obj))::(it,oi)::hw2)++nw2):=fun p hp=>by
    rcases mem_cons.mp hp with rfl | hp
    ·exact ⟨hE,Ne.symm heL,he0⟩
    rcases mem_cons.mp hp with rfl | hp
    ·exact ⟨hoi,Ne.symm hitL,hit0⟩
    ·exact N3 p hp
   refine unpackN_ (s:=⟨h2,g'.1,s.drawn,tk1,s.os⟩) F3 Nt hT2 H.v.g.hh (by (refine rwg (es2 ..) ?_;refine rwg (hlen ..) ?_);rfl) es1 fun h3 F4 N4=>?_;have P3:=cL4 (a:={cls:=.type "enumerate",dict:=none,data:=.fields #[.none,.bool false,.ref it,rawInt ((i + 1:Nat):Int),.none,old],slots:=#[]}) (b:=oi) P2 ne ni (Ne.symm hei);refine aO2 (H.plus _) S [.int i,c] _ m' σ2 _ ⟨h3,g'.1,s.drawn,tk1,s.os⟩ (P3.rel F4 N4) (.cons (aJ6 t) (.cons iu .nil)) hts fun m4 σ4 h4 tk4 R4 k4=>?_;refine ihB _ b m4 σ4 _ _ ⟨h4,g'.1,s.drawn,tk4,s.os⟩ _ _ R4 k4 fun fl σ5 f m5 r5 h5 tk5 g5 R5 i5 k5=>?_;(replace R5:=(e3 ..)▸R5;replace R5:=(append_assoc ..)▸R5)
   have bare2:∀ {r:List Addr} {σ6:St},Rel (V.plus [(e,({cls:=.type "enumerate",dict:=none,data:=.fields #[.none,.bool false,.ref it,rawInt ((i + 1:Nat):Int),.none,old],slots:=#[]}:Obj)),(it,oi)]) m5 (nw.map (·.1)++r) σ6 h5→∀ C:Prop,(∀ hw6 nw6,nw6.map (·.1)=nw.map (·.1)++r→Fr V.h₀ V.L h5 m5→IsEnum h5 e it ((i + 1:Nat):Int) old→h5.get? it=some oi→News V.h₀ V.L h5 (hw6++nw6)→(∀ p∈hw6++nw6,p.1≠e)→(∀ p∈hw6++nw6,p.1≠it)→Pcs V σ6 m5 hw6 nw6→C)→C:=by
    intro r σ6 R6 C kC;(refine R6.el ?_;intro hw' nw6 e6 F6 N6 P6)
    (refine aA3 (P6.hW) ?_;intro hw6 eo0 hW;subst eo0)
    have nd:=P6.nd;rw [append_assoc,cons_append,cons_append,nil_append,map_cons,map_cons,nodup_cons,nodup_cons] at nd;exact kC hw6 nw6 e6.symm F6 (N6 _ (.head _)).1 (N6 _ (.tail _ (.head _))).1 (fun p hp=>N6 p (.tail _ (.tail _ hp))) (fun p hp q=>nd.1 (.tail _ (mem_map.mpr (aA0 (p) (hp) (q))))) (fun p hp q=>nd.2.1 (mem_map.mpr (aA0 (p) (hp) (q)))) ⟨hW,nd.2.2,P6.len,P6.ob,P6.lo,P6.ce⟩
   have base:Rel V m5 (nw.map (·.1)++(r++r5)) σ5 h5:=by
    refine bare2 R5 _ fun hw6 nw6 e6 F6 u_ u_ N6 u_ u_ P6=>?_;refine rwb (e6 ..) ?_;exact P6.rel F6 N6
   have next:again σ.obj.length (I (i + 1)) σ5→∃ mm,mm < ys.length + 1 - i∧LI V s nw ys.length I (Ze e it l vs) mm ⟨h5,g5.1,s.drawn,tk5,s.os⟩:=fun k5=>by
    refine hide fun G_ k_=>?_;(refine aG9 (aU9 (H.plus [(e,({cls:=.type "enumerate",dict:=none,data:=.fields #[.none,.bool false,.ref it,rawInt ((i + 1:Nat):Int),.none,old],slots:=#[]}:Obj)),(it,oi)]).v.gv hn0 hcl k5 R5) ?_;intro σ7 r7 R7 hI7)
    refine bare2 R7 _ fun hw6 nw6 e6 F6 hE6 hi6 N6 ne6 ni6 P6=>?_;refine k_ ?_;exact ⟨ys.length + 1 - (i + 1),by (clear hx hlen e1 e2 hLlt he0 hit0 heL hitL hei hn0 hle nle nli hsz hst e3 hlt hT hmid hTw hoi hoi2 hc hu hPx es1 es2 k_ e6 hi6;omega),.mk h5 tk5 (g'.then g5) m5 (i + 1) σ7 hw6 nw6 r7 hlt ⟨⟨⟨old,hE6⟩,(aA0 (oi) (hi6) (hoi2)),hl _ F6.keep⟩,ne6,ni6⟩ F6 N6 e6 P6 hI7⟩
   cases i5 with
   | next=>exact next k5
   | cont=>exact next k5
   | brk=>exact hQ .next σ5 .next m5 (r++r5) h5 tk5 (g'.then g5) base .next k5
   | ret hv5=>exact hQ (.ret _) σ5 (.ret _) m5 (r++r5) h5 tk5 (g'.then g5) base (.ret (by (refine rwb (append_assoc ..) ?_;refine rwb (e3 ..) ?_);exact hv5)) k5
  ·obtain rfl:i=ys.length:=Nat.le_antisymm hi (Nat.not_lt.mp hlt);refine W.done _ _ _ (by refine rwg (hsz ..) ?_;exact hst) fun h1 tk1 hk1=>?_;refine hide fun G_ k_=>?_;(refine aE8 (off hk1 F2 N2 ne ni) ?_;intro F1 N1)
   refine k_ ?_;refine ih o m' σ2 _ _ ⟨h1,g'.1,s.drawn,tk1,s.os⟩ _ _ (P2.rel F1 N1) (hdone σ2 hI) ?_;refine rwg (e3 ..) ?_;exact hQ.step r h1 tk1 g'
 ·refine rwg (e2 ..) ?_;exact ne_of_lt (lt_succ_of_lt (Heap.lt_size (N p hp).1))
 ·refine rwg (e1 ..) ?_;exact ne_of_lt (Heap.lt_size (N p hp).1)
theorem evs_o {f:Expr→St→(AV→St→Prop)→Prop} {e:Expr} {σ:St} {K:List AV→St→Prop} (h:f e σ fun a σ1=>K [a] σ1):evs f [e] σ K:=by
 refine rwg (aU6 ..) ?_;exact cast (congrArg (f e σ) (funext fun a=>funext fun σ1=>evs_0.symm)) h
set_option tactic.hygienic true in
theorem dC (H:FOk G prog w A V env) (ih:aJ5 G prog w A V env n) (ihB:∀ hy,aJ5 G prog w A (V.plus hy) env n) (ihE:bL5 G prog w A V env n) {t it e:Expr} {b o rest:List Stmt} {p:Pos} (he:bE2 G it=some e) (hset:∀ x,foldedSetIterable it env x=pure x) {k:St→Prop} (R:Rel V m ρ σ s.heap)
  (h:aB4 ((bG8 t).bind fun ts=>ts.mapM aE7) fun xs=>aG8 (xs.length==2) <| ev n G false e σ fun a σ1=>aB4 (bK3 a) fun l=>aB4 ((G.tab l).bind AO.tup?) fun ys=>∃ I:Nat→St→Prop,I 0 σ1 ∧
       (∀ i σ2 c,I i σ2→ys[i]?=some c→aM G xs [.int i,c] σ2 fun σ3=>ex G n b σ3 (aC2 K k (again σ1.obj.length (I (i + 1)))))∧∀ σ2,I ys.length σ2→ex G n o σ2 (aE3 K k))
  (hQ:ResF V ρ s (aE3 K k) (fun f s'=>match f with | .next=>wpAny (model prog w) A (execs rest env) Q E s' | f=>Q f s')):wpAny (model prog w) A (execs (.For t it b o p::rest) env) Q E s:=by
 refine hide fun G_ k_=>?_;(refine aA h ?_;intro xs hx h00)
 (refine aB5 h00 ?_;intro hlen h0)
 have hlen:xs.length=2:=eq_of_beq hlen;clear h00;(refine aA1 hx ?_;intro ts ht hx)
 (refine bG0 ht ?_;intro kt pt eo0;subst eo0)
 (refine aR (bN0 he) ?_;intro pg pc eo0 hgl hgi hpl;subst eo0)
 clear h ht he;(refine R.el ?_;intro hw nw e0 F N Pc)
 refine k_ ?_;refine wpAny_execs_cons (wpAny_For (Call_ (H.v.g.glob env _ _ s V.L m _ E pg H.v.gl H.v.bl (by refine rwg (H.v.scope ..) ?_;exact H.v.kind) hgl (by refine rwg (H.v.scope ..) ?_;exact hgi) (by decide +kernel) F ?_)) hset);refine aG4 ihE (Ks:=fun as σ1=>aB4 (aY2 as) fun a=>aB4 (bK3 a) fun l=>aB4 ((G.tab l).bind AO.tup?) fun ys=>∃ I:Nat→St→Prop,I 0 σ1∧(∀ i σ2 c,I i σ2→ys[i]?=some c→aM G xs [.int i,c] σ2 fun σ3=>ex G n b σ3 (aC2 K k (again σ1.obj.length (I (i + 1)))))∧∀ σ2,I ys.length σ2→ex G n o σ2 (aE3 K k)) R (by simp [hpl]) (evs_o h0) fun as σ1 vs r1 h1 tk1 g1 R1 i1 k1=>⟨aD9 rfl,?_⟩;refine hide fun G_ k_=>?_;(refine aA k1 ?_;intro a ha k0)
 obtain rfl:=aF7 ha;clear k1;(refine aA3 (i1.one) ?_;intro _ eo0 ia;clear i1;subst eo0)
 (refine aA k0 ?_;intro l hl k2)
 obtain ⟨ys,hys,I,hI0,hturn,hdone⟩:=aH1 k2;(refine bG9 hl ia ?_;intro eo0 eo1;clear k0 ha ia hl;subst eo0;subst eo1)
 (refine aA1 hys ?_;intro ao hao hy2)
 (refine aA3 (H.v.g.tab l ao hao) ?_;intro ot hot io)
 refine k_ ?_;clear hao;cases ao<;>cases hy2
 refine hide fun G_ k_=>?_;obtain ⟨hcl,vs,nn,hd,iv⟩:=io;have htup:∀ h':Heap,(∀ b o,V.h₀.get? b=some o→h'.get? b=some o)→h'.IsTuple l (toArray vs):=fun h' hk=>⟨ot,hk _ _ hot,hcl,nn,hd⟩;(refine R1.el ?_;intro hw1 nw1 e1 F1 N1 P1)
 refine k_ ?_;refine cF9 (s:=⟨h1,g1.1,s.drawn,tk1,s.os⟩) (htup _ F1.keep) fun h2 hE hI hk2=>?_;refine wpAny_pyIter_enum hE ?_;exact cQ5 H ih ihB (s:=⟨h1,g1.1,s.drawn,tk1,s.os⟩) hx hlen R1 htup (fun ρ=>by simpa using iv.more ρ) I hI0 hturn hdone (hQ.step r1 h1 tk1 g1) h2 hk2 rfl rfl hE hI
end
end
theorem bP6 {t:Expr} {q:Expr × Expr × Pos} (h:dC7 t=some q):∃ p,t=.Subscript q.1 q.2.1 p:=by
 refine hide fun G_ k_=>?_;(refine aP4 (cB3 h) ?_;intro o i p e h)
 refine k_ ?_
 revert h
 cases aK0 o && aQ6 i with
 | true=>exact fun h=>⟨p,(Option.some.inj h:(o,i,p)=q)▸e⟩
 | false=>intro h;cases h
section
variable {prog:Program} {w:World} {A:Around} {E:Value→Shared→Prop} {s:Shared}
theorem bV0 {D:Addr} {its:Array Value} {n:Nat} {k:Int} {t:Tok} {v:Value} {Q:Unit→Shared→Prop} (ho:s.heap.get? D=some (W.listOf its n)) (h0:0≤k) (hfit:k < 2 ^ 63) (hn:k < its.size)
  (hQ:∀ h' n',Heap.SameBut D s.heap h'→h'.get? D=some (W.listOf (its.setIfInBounds k.toNat v) n')→Q () {s with heap:=h'}):wpAny (model prog w) A (setItem (.ref D) (.int k t) v) Q E s:=by
 have hl:s.heap.IsList D its:=⟨_,ho,rfl,n,rfl⟩;unfold setItem;with_reducible refine wpAny_holding ?_
 refine wpAny_bind (wpAny_sequenceKey hl.typeIs (by decide) ?_);refine wpAny_bind (wpAny_callSpecial?_slot (name:=ofString "__setitem__") hl.typeIs slot_list_setitem (wpAny_call_entry slot_list_setitem hl.typeIs entry_list_setitem ?_ (args_list_setitem _ _ _)));refine (?_:wpAny _ _ (Builtin.List.listSubscript? (.int k t) >>= _) _ _ s);refine wpAny_bind (wpAny_listSubscript_int (fitsIndex_of h0 hfit) ?_);clear hfit;obtain ⟨j,rfl⟩:=Int.eq_ofNat_of_zero_le h0;have hj:j < its.size:=by (clear ho h0;lia)
 have hx:its[j]?=some its[j]:=Array.getElem?_eq_getElem hj;refine (?_:wpAny _ _ ((seqItemAt D j >>= fun r=>pure (r.map (j,·))) >>= _) _ _ s);refine wpAny_bind (wpAny_bind (wpAny_seqItemAt ho rfl (wpAny_pure ?_)));refine rwg (hx ..) ?_;refine (?_:wpAny _ _ (setSeqItemAt D j v >>= _) _ _ s);have fin:(s.heap.update D (Obj.mapSeq (·.setIfInBounds j v))).get? D=some (W.listOf (its.setIfInBounds j v) n):=by
  refine rwg (Heap.get?_update_self _ ho rfl ..) ?_;unfold W.listOf;unfold Obj.mapSeq
  simp
 refine wpAny_bind (wpAny_setSeqItemAt ho rfl ?_);exact wpAny_pure (aA0 (.none) (rfl) (wpAny_pure (hQ _ n (Heap.SameBut.update ..) fin)))
end
section
variable {G:Gx} {prog:Program} {w:World} {A:Around} {V:Vw} {m:Str→Option Value} {env:Env} {σ:St} {ρ:List Addr} {s:Shared} {E:Value→Shared→Prop} {n:Nat} {a:AV} {v:Value} {Q:Flow→Shared→Prop} {K:Fl→St→Prop}
theorem AllIs.reverse {β:List Addr} {as:List AV} {vs:List Value} (h:AllIs β ρ as vs):AllIs β ρ as.reverse vs.reverse:=by
 induction h with
 | nil=>exact .nil
 | cons a _ ih=>(refine rwg (List.reverse_cons ..) ?_;refine rwg (List.reverse_cons ..) ?_);exact ih.append (.cons a .nil)
theorem AllIs.set {β:List Addr} {as:List AV} {vs:List Value} (h:AllIs β ρ as vs) {y:AV} {u:Value} (hy:y.Is β ρ u):∀ j:Nat,AllIs β ρ (as.set j y) (vs.set j u):=by
 induction h with
 | nil=>intro j;exact .nil
 | cons a t ih =>
  intro j;cases j with
  | zero=>exact .cons hy t
  | succ j=>exact .cons a (ih j)
theorem AllIs.erase {β:List Addr} {as:List AV} {vs:List Value} (h:AllIs β ρ as vs):∀ j:Nat,AllIs β ρ (as.eraseIdx j) (vs.eraseIdx j):=by
 induction h with
 | nil=>intro j;exact .nil
 | cons a t ih =>
  intro j;cases j with
  | zero=>exact t
  | succ j=>exact .cons a (ih j)
theorem bW6 {x y:AV} {u:Value} {k:Int} {t:Tok} {K:St→Prop} {Q:Unit→Shared→Prop} (R:Rel V m ρ σ s.heap) (hx:x.Is V.β ρ v) (hy:y.Is V.β ρ u) (h:setV x k y σ K) (hQ:∀ σ' h',Rel V m ρ σ' h'→K σ'→Q () ⟨h',s.gens,s.drawn,s.toks,s.os⟩):wpAny (model prog w) A (setItem v (.int k t) u) Q E s:=by
 refine hide fun G_ k_=>?_;obtain ⟨p,hp,⟨h1,h2,h3⟩,h4⟩:=aU8 h;have h4:=aV4 h4;clear h;(refine aZ5 R hx hp ?_;intro hw nw D vs n eo0 eo1 eo2 F N P hn ho i;subst eo0;subst eo1;subst eo2)
 refine k_ ?_;have hN:=N _ (mem_append_right _ (mem_of_getElem? hn));rw [i.length] at h2 h3;refine bV0 ho h1 (by (clear h1 hp k_ hn ho hN;lia)) (by refine rwg (size_toArray ..) ?_;exact h2) fun h' n' hb ho'=>?_;have hi:(AO.list (p.2.set k.toNat y)).Is V.β (nw.map (·.1)) (W.listOf ((toArray vs).setIfInBounds k.toNat u) n'):=⟨vs.set k.toNat u,n',by simp,i.set hy _⟩;exact hQ _ h' (map_set hn▸((P.set hn hi).rel (F.change hb hN.2.1 hN.2.2) (News.set N P.nd hn hb ho'))) h4
theorem bV5 {x:AV} {k:Int} {t:Tok} {K:St→Prop} {Q:Unit→Shared→Prop} (R:Rel V m ρ σ s.heap) (hx:x.Is V.β ρ v) (h:delV x k σ K) (hQ:∀ σ' h',Rel V m ρ σ' h'→K σ'→Q () ⟨h',s.gens,s.drawn,s.toks,s.os⟩):wpAny (model prog w) A (delItem v (.int k t)) Q E s:=by
 refine hide fun G_ k_=>?_;obtain ⟨p,hp,⟨h1,h2,h3⟩,h4⟩:=aU8 h;have h4:=aV4 h4;clear h;(refine aZ5 R hx hp ?_;intro hw nw D vs n eo0 eo1 eo2 F N P hn ho i;subst eo0;subst eo1;subst eo2)
 refine k_ ?_;have hN:=N _ (mem_append_right _ (mem_of_getElem? hn));rw [i.length] at h2 h3;refine delItem_at (k:=k.toNat) ho ?_ ?_ (fun h' hb ho'=>?_) (by rw [size_toArray,sizeLine_eq];omega)
 ·unfold Builtin.List.listFitsIndex;have:(2:Int) ^ 63=9223372036854775808:=by decide
  rw [this];simp only [Bool.and_eq_true,decide_eq_true_eq]
  omega
 ·unfold seqIndex?;(refine rwg (if_neg (show ¬ k < 0 by omega) ..) ?_;refine rwg (size_toArray ..) ?_;refine rwg (if_pos (by simp only [Bool.and_eq_true,decide_eq_true_eq];omega) ..) ?_;rfl)
 have hi:(AO.list (p.2.eraseIdx k.toNat)).Is V.β (nw.map (·.1)) {cls:=.type "list",data:=.seq ((toArray vs).toList.eraseIdx k.toNat).toArray (n + 1)}:=⟨vs.eraseIdx k.toNat,n + 1,by simp,i.erase _⟩;exact hQ _ h' (map_set hn▸((P.set hn hi).rel (F.change hb hN.2.1 hN.2.2) (News.set N P.nd hn hb ho'))) h4
set_option tactic.hygienic true in
theorem cW9 (H:FOk G prog w A V env) {sw:Option (List Str)} {t e:Expr} {p:Pos} {K:St→Prop} (hts:(bG8 t).isSome=true) (hc:(aZ4 e)=false) (he:swappedStores [t] e env=pure sw)
  (hev:∀ (Q':Value→Shared→Prop),(∀ a σ1 v r h1 tk1 (g1:GB s.gens),Rel V m (ρ++r) σ1 h1→a.Is V.β (ρ++r) v→asgT G sw t a σ1 K→Q' v ⟨h1,g1.1,s.drawn,tk1,s.os⟩)→wpAny (model prog w) A (eval e env) Q' E s)
  (hQ:∀ m' σ' r h' tk' (g':GB s.gens),Rel V m' (ρ++r) σ' h'→K σ'→Q .next ⟨h',g'.1,s.drawn,tk',s.os⟩):wpAny (model prog w) A (exec (.Assign [t] e p) env) Q E s:=by
 refine hide fun G_ k_=>?_;(refine aJ9 (isSome_iff_exists.mp hts) ?_;intro tl htl)
 (refine bG0 htl ?_;intro k pt eo0;clear hts;subst eo0)
 cases htl
 refine k_ ?_;have hsw:swapsWithSole [.Tuple tl k pt] e p.line env=pure false:=by unfold swapsWithSole;exact aO0 (by refine rwg (hc ..) ?_;rfl) _ _ _
 cases sw with
 | none =>
  refine Assign_Tuple (hev _ fun a σ1 v r1 h1 tk1 g1 R1 i1 k1=>?_) hsw he;exact cS1 H (s:=⟨h1,g1.1,s.drawn,tk1,s.os⟩) R1 k1 i1 fun m2 σ2 h2 tk2 R2 k4=>hQ m2 σ2 r1 h2 tk2 g1 R2 k4
 | some names =>
  refine Assign_Tuple_swapped (hev _ fun a σ1 v r1 h1 tk1 g1 R1 i1 k1=>?_) hsw he;refine hide fun G_ k_=>?_;(refine aA k1 ?_;intro as hs k4)
  (refine aB5 k4 ?_;intro hl k5)
  have hl:names.length=as.length:=eq_of_beq hl;(refine bT5 H.v.gv R1 i1 hs ?_;intro l vs eo0 hlst i;clear i1;subst eo0)
  (refine R1.el ?_;intro hw nw e0 F N P)
  refine k_ ?_;replace i:=(e0 ..)▸i;refine unpackItemsN_ (s:=⟨h1,g1.1,s.drawn,tk1,s.os⟩) F N hlst H.v.g.hh (by (refine rwg (hl ..) ?_;refine rwg (size_toArray ..) ?_;refine rwg (i.length ..) ?_;rfl)) fun h' F' N'=>?_;refine aO2 H (Sts.bind names.reverse) _ _ _ σ1 _ ⟨h',g1.1,s.drawn,tk1,s.os⟩ (P.rel F' N') i.reverse k5 fun m2 σ2 h2 tk2 R2 k6=>?_;exact hQ m2 σ2 r1 h2 tk2 g1 (e0▸R2) k6
theorem cQ1 {t e:Expr} (h:cO9 G t e=true):∃ x pt elt gens sc pe,t=.Name x pt∧e=.ListComp elt gens sc pe∧aJ7 G x=true∧(pt.line==pe.line)=true∧(!(sc.names.any fun (n,k)=>n==x && (k==.local || k==.cell)))=true:=by
 unfold cO9 at h;obtain ⟨b,hb⟩:∃ b,cG7 (fun x pt=>cG2 (fun u_ u_ sc pe=>some (aJ7 G x && (pt.line==pe.line) && !(sc.names.any fun (n,k)=>n==x && (k==.local || k==.cell)))) e) t=some b:=by
  cases q:cG7 (fun x pt=>cG2 (fun u_ u_ sc pe=>some (aJ7 G x && (pt.line==pe.line) && !(sc.names.any fun (n,k)=>n==x && (k==.local || k==.cell)))) e) t with
  | none=>replace h:=(q ..)▸h;cases h
  | some b=>exact ⟨b,rfl⟩
 replace h:=(hb ..)▸h;refine hide fun G_ k_=>?_;(refine aG9 (bQ hb) ?_;intro x pt e1 hb)
 (refine aM0 (cL0 hb) ?_;intro el gs sc pe e2 hb)
 refine k_ ?_;have h:=(Option.some.inj hb).trans h;(replace h:=(Bool.and_eq_true ..)▸h;replace h:=(Bool.and_eq_true ..)▸h)
 exact ⟨x,pt,el,gs,sc,pe,e1,e2,h.1.1,h.1.2,h.2⟩
set_option tactic.hygienic true in
theorem bX8 (H:FOk G prog w A V env) {t e:Expr} {p:Pos} {σ:St} {K:St→Prop} (hsw:cO9 G t e=true) (R:Rel V m ρ σ s.heap) (h:cev n G e σ fun a σ1=>asg G t a σ1 K)
  (hQ:∀ m' σ' r h' tk' (g':GB s.gens),Rel V m' (ρ++r) σ' h'→K σ'→Q .next ⟨h',g'.1,s.drawn,tk',s.os⟩):wpAny (model prog w) A (exec (.Assign [t] e p) env) Q E s:=by
 refine hide fun G_ k_=>?_;(refine bF8 (cQ1 hsw) ?_;intro x pt elt gens sc pe eo0 eo1 s1 s2 s3;clear hsw;subst eo0;subst eo1)
 refine k_ ?_;have hl:G.cs.names.lookup x=some .local:=eq_of_beq s1;have hk:env.kindOf x=some .local:=by refine (?_:env.scope.names.lookup x=_);refine rwg (H.v.scope ..) ?_;exact hl
 have hkind:env.scope.kind=.function:=by refine rwg (H.v.scope ..) ?_;exact H.v.kind
 have hswp:swapsWith (.ListComp elt gens sc pe) (some (.Name x pt)) p.line env=pure true:=by
  have h1:=s2;have h2:=s3;unfold swapsWith;dsimp only
  have hb:env.blockKind=.function:=by unfold Env.blockKind;refine rwg (hkind ..) ?_;rfl
  (refine rwg (hb ..) ?_;refine rwg (hk ..) ?_)
  simp only [beq_self_eq_true,Bool.true_and]
  have h1:(pt.line==(Expr.ListComp elt gens sc pe).pos.line)=true:=h1;(refine rwg (h1 ..) ?_;refine rwg (h2 ..) ?_);rfl
 refine rwg (exec_Assign_Name_used _ _ _ _ hswp ..) ?_;refine wpAny_bind (wpAny_standAt (wpAny_bind ?_));refine (?_:wpAny _ A (do let _ ← comprehension (.ListComp elt gens sc pe) sc env _ (newList []) _ _ (some (assign (.Name x pt) env))) _ _ s);refine wpAny_bind (wpAny_mono (bI6 (use:=some (assign (.Name x pt) env)) (Q:=fun u_ s'=>Q .next s') (fun G V env=>aY3 n G V env) H.v R h fun D C h tk g σ' hw' nw' r m' F N P e hC hC0 hCL hne hK=>?_) (fun u_ s' hq=>wpAny_pure (wpAny_pure hq)) fun u_ u_ e=>e);refine hide fun G_ k_=>?_;(refine aA3 hK ?_;clear hK;intro a hK ha)
 (refine aA3 (LCg.ns_obj hC) ?_;intro oC heC hoC)
 refine k_ ?_;have N2:News V.h₀ V.L h (((C,oC)::hw')++nw'):=fun q hq=>by
  rcases mem_cons.mp hq with rfl | hq
  ·exact ⟨heC,hCL,hC0⟩
  ·exact N q hq
 have R2:=(P.hide (I:=C) (oI:=oC) hne).rel F N2;refine (?_:wpAny _ _ (assign (.Name x pt) env (.ref D)) _ _ _);refine aB7 hK (fun ts ht u_=>?_) (fun u_ hK=>?_)
 ·cases ht
 refine hide fun G_ k_=>?_;(refine aA hK ?_;intro y hy hK)
 cases hy
 refine k_ ?_;refine wpAny_assign_Name (aJ4 (H.plus [(C,oC)]) (s:=⟨h,g.1,s.drawn,tk,s.os⟩) R2 (e▸ha) hK fun m2 σ2 h2 tk2 R3 u_ k3=>?_);refine hide fun G_ k_=>?_;(refine aM5 (R3.bare) ?_;intro hw3 nw3 e3 F3 N3 P3 ne3)
 refine k_ ?_;have hC3:=(N3 (C,oC) (.head _)).1;refine (aA0 (m') (hoC.ns hC3) (fun h3 hs3=>?_));have F4:Fr V.h₀ V.L h3 m2:=F3.change hs3 hCL hC0;have N4:News V.h₀ V.L h3 (hw3++nw3):=fun q hq=>⟨hs3.extBut _ _ (ne3 q hq) (N3 q (.tail _ hq)).1,(N3 q (.tail _ hq)).2⟩;have R4:=P3.rel F4 N4;rw [e3,e] at R4;exact hQ m2 σ2 r h3 tk2 g R4 k3
theorem bP1 {e:Expr} {x:Str} (h:cY5 e=some x):∃ k p,e=.Constant (.str x) k p:=by
 refine hide fun G_ k_=>?_;(refine aP4 (bZ4 h) ?_;intro c k p e h)
 refine k_ ?_;refine (aT2 (k) (p) (e.trans ?_));clear e;cases c<;>cases h
 rfl
theorem cK6 {e:Expr} {r:Str × Str × Str} (h:dC6 e=some r):∃ px ap k1 p1 k2 p2 p,e=.Call (.Attribute (.Name r.1 px) (ofString "replace") ap) [.Constant (.str r.2.1) k1 p1,.Constant (.str r.2.2) k2 p2] [] p∧aO4 (.Name r.1 px) [.Constant (.str r.2.1) k1 p1,.Constant (.str r.2.2) k2 p2] ap p=true:=by
 refine hide fun G_ k_=>?_;(refine aM0 (bR9 h) ?_;intro g args kws p e0 h1)
 clear h;subst e0;(refine aA1 h1 ?_;intro t ha h)
 refine k_ ?_;clear h1;refine rwg (aV1 ha ..) ?_;clear ha
 revert h
 cases hc:kws.isEmpty && (aO4 t.1 args t.2.2 p && t.2.1==ofString "replace") with
 | false=>intro h;cases h
 | true =>
  intro h;rw [Bool.and_eq_true,Bool.and_eq_true] at hc;refine hide fun G_ k_=>?_;(refine aA1 h ?_;intro x hx h)
  (refine aA1 h ?_;intro q hq h)
  (refine aA1 h ?_;intro y hy h)
  (refine aB9 h ?_;intro z hz eo0;clear h;clear h;subst eo0)
  (refine aI1 hx ?_;intro px ex)
  (refine aY5 (bP1 hy) ?_;intro k1 p1 e1)
  (refine aY5 (bP1 hz) ?_;intro k2 p2 e2)
  refine k_ ?_;have c2:=hc.2.1;rw [aN0 hq,e1,e2,ex] at c2;(refine rwg (aK6 hc.1 ..) ?_;refine rwg (aN0 hq ..) ?_;refine rwg (e1 ..) ?_;refine rwg (e2 ..) ?_;refine rwg (ex ..) ?_;refine rwg (eq_of_beq hc.2.2 ..) ?_)
  exact ⟨px,_,k1,p1,k2,p2,_,rfl,c2⟩
theorem bP9 {st:Stmt} {q:Expr × Expr} (h:cU2 st=some q):∃ p,st=.Assign [q.1] q.2 p:=by
 refine hide fun G_ k_=>?_;(refine aP4 (dA5 h) ?_;intro ts e p q1 h)
 (refine aB9 h ?_;intro t ht h)
 refine k_ ?_;replace q1:=(aF7 ht ..)▸q1;exact ⟨p,h▸q1⟩
theorem cT8 {sts:List Stmt} {q:(Expr × Expr × (Str × Str × Str) × (Option Expr × Option Expr)) × List Stmt} (h:rep? sts=some q):∃ x px sp ps p,q.1.1=.Name x px∧sts=.Assign [q.1.1] (.Subscript q.1.2.1 (.Slice q.1.2.2.2.1 q.1.2.2.2.2 none sp) ps) p::q.2∧dC6 q.1.2.1=some q.1.2.2.1:=by
 cases sts with
 | nil=>cases h
 | cons st rest =>
  refine hide fun G_ k_=>?_;(refine aA1 h ?_;intro te h1 h)
  refine k_ ?_
  revert h
  cases hn:aK0 te.1 with
  | false=>intro h;cases h
  | true =>
   intro h;refine hide fun G_ k_=>?_;(refine aA1 h ?_;intro ab h2 h)
   (refine aA1 h ?_;intro sl h3 h)
   (refine aB9 h ?_;intro r h4 eo0;clear h;clear h;subst eo0)
   (refine aQ9 hn ?_;intro x px hx)
   (refine aJ9 (bK4 h3) ?_;intro sp hs)
   (refine aJ9 (bP9 h1) ?_;intro p hp)
   (refine aP4 (cB3 h2) ?_;intro a b ps q1 h2)
   clear h3 h;clear h;obtain rfl:=Option.some.inj h2;refine k_ ?_;rw [q1] at hp;have hs:b=_:=hs;exact ⟨x,px,sp,ps,p,hx,by (refine rwg (hp ..) ?_;refine rwg (hs ..) ?_;rfl),h4⟩
set_option tactic.hygienic true in
theorem dA1 {x y z r:Str} {t u v:Tok} {Q:Value→Shared→Prop} (h:cM8 x y z=some r) (hu:u≠0) (hv:v≠0) (huv:u≠v) (hq:∀ t tk,Q (.str r t) ⟨s.heap,s.gens,s.drawn,tk,s.os⟩):wpAny (model prog w) A (call (.builtin "str.replace") [.str x t,.str y u,.str z v]) Q E s:=by
 unfold cM8 at h;split at h
 ·rename_i hc;cases h
  refine call_gives F.slot_str_replace (typeIs_str _ _ _) F.entry_str_replace (F.args_str_replace_3 _ _ _) (gives_str_replace _ y z t u v fun hf=>by rw [hc] at hf;cases hf) ?_;refine rwg (if_pos hc ..) ?_;exact hq _ _
 ·rename_i hc;split at h
  ·rename_i h2;cases h
   rw [Bool.and_eq_true,Bool.and_eq_true] at h2;obtain ⟨h2,h5⟩:=h2;have h3:(y==z)=false:=by have:=h2.1;cases q:y==z<;>rw [q] at this<;>first | rfl | cases this
   have h4:Builtin.Str.tooLong (x.length + (Builtin.Str.occurrences x y 0 x.length (x.length + 1)).length * z.length)=false:=by have:=h2.2;revert this;cases Builtin.Str.tooLong _<;>intro this<;>first | rfl | cases this
   refine call_gives F.slot_str_replace (typeIs_str _ _ _) F.entry_str_replace (F.args_str_replace_3 _ _ _) (gives_str_replace x y z t u v fun u_=>⟨by simp [hu,hv],by simp [huv],h3,h4⟩) ?_;(refine rwg (if_neg (by rw [hc];exact Bool.false_ne_true) ..) ?_)
   exact ⟨le_trans (le_of_ble_eq_true h5) (by refine rwg (sizeLine_eq ..) ?_;decide),hq _ _⟩
  ·cases h
set_option tactic.hygienic true in
theorem loc_ok (H:VOk G prog w A V env) {x:Str} {p:Pos} {a:AV} {Q:Value→Shared→Prop} (h:bU5 G σ x=some a) (R:Rel V m ρ σ s.heap) (hQ:∀ v,a.Is V.β ρ v→Q v s):wpAny (model prog w) A (eval (.Name x p) env) Q E s:=by
 unfold bU5 at h;split at h
 ·rename_i hd;rw [Bool.and_eq_true] at hd;refine bN7 H (K:=fun b=>b=a) R ?_ fun b v e i=>hQ v (e▸i);unfold name;(refine rwg (hd.1 ..) ?_;refine rwg (eq_of_beq hd.2 ..) ?_)
  refine (?_:aB4 (σ.loc.lookup x) _);refine rwg (h ..) ?_;rfl
 ·cases h
theorem rep_ok (H:FOk G prog w A V env) (ih:aJ5 G prog w A V env n) {sts:List Stmt} {q:(Expr × Expr × (Str × Str × Str) × (Option Expr × Option Expr)) × List Stmt} (hq:rep? sts=some q) (ht:s.toks≠0) (R:Rel V m ρ σ s.heap)
  (h:repV (ev n G false) G q.1.2.1 q.1.2.2.1 q.1.2.2.2 σ fun b σ3=>asg G q.1.1 b σ3 fun σ4=>ex G n q.2 σ4 K) (hQ:ResF V ρ s K Q):wpAny (model prog w) A (execs sts env) Q E s:=by
 have ih1:=aY3 n G V env H.v;refine hide fun G_ k_=>?_;(refine bY6 (cT8 hq) ?_;intro x px sp ps p hn eo0 hr;clear hq;subst eo0)
 (refine bN1 (cK6 hr) ?_;intro qx ap k1 p1 k2 p2 cp he hm)
 (refine aB5 h ?_;intro hmt h)
 (refine aA h ?_;intro tx hl h)
 obtain ⟨tx,hx,y,hy,h⟩:=aH1 h;refine k_ ?_;rw [hn] at h ⊢;refine wpAny_execs_cons (wpAny_Assign_Name (Subscript_ ?_) (aO0 (by rfl) _ _ _));refine rwg (he ..) ?_;refine hide fun G_ k_=>?_;obtain ⟨he2,hp⟩:=aQ3 (env:=env) hm;refine k_ ?_;refine MethodCall_ (loc_ok H.v hl R fun v i=>?_) he2;refine hide fun G_ k_=>?_;(refine AV.str_el hx i ?_;intro t0 eo0;clear i;subst eo0)
 refine k_ ?_;refine H.v.g.meth _ _ (eq_of_beq hmt) _ _ _ _ _ _ ?_;refine callWith_of (P:=fun h=>keeps (model prog w) (.builtin "str.replace") h) (by refine rwg (aQ4 _ hp cp env ..) ?_;rfl) (fun u_ p=>p) ?_;refine evalArgs_plain ?_;refine PyProof.Rows.args_cons (wpAny_Constant_str ?_) rfl;refine PyProof.Rows.args_cons (wpAny_Constant_str ?_) rfl;refine PyProof.Rows.args_nil ⟨aD9 rfl,?_⟩;refine dA1 (s:=⟨s.heap,s.gens,s.drawn,s.toks + 1 + 1,s.os⟩) hy ht (Nat.succ_ne_zero _) (ne_of_lt (lt_succ_self _)) fun t tk=>?_;refine wpAny_Slice (bP2 ih1 (s:=⟨s.heap,s.gens,s.drawn,tk,s.os⟩) R h fun i σ2 vi r2 h2 tk2 g2 R2 i2 k2=>?_);refine bP2 ih1 (s:=⟨h2,g2.1,s.drawn,tk2,s.os⟩) R2 k2 fun j σ3 vj r3 h3 tk3 g3 R3 i3 k3=>?_;refine evalPart_none_step ?_;rw [he] at k3;refine cS6 H.v.gv (s:=⟨h3,g3.1,s.drawn,tk3,s.os⟩) R3 (aF5 t) (i2.more r3) i3 k3 fun b σ4 v4 r4 h4 tk4 g4 R4 i4 k4=>?_;rw [append_assoc,append_assoc] at R4 i4;refine aB7 k4 (fun u_ ht u_=>?_) (fun u_ k5=>?_)
 ·cases ht
 refine hide fun G_ k_=>?_;(refine aA k5 ?_;intro y' hy' k6)
 cases hy'
 refine k_ ?_;exact aJ4 H (s:=⟨h4,g4.1,s.drawn,tk4,s.os⟩) R4 i4 k6 fun m5 σ5 h5 tk5 R5 u_ k7=>ih _ m5 _ K _ ⟨h5,g4.1,s.drawn,tk5,s.os⟩ Q E R5 k7 (hQ.step _ h5 tk5 (g2.then (g3.then g4)))
theorem exR_ok (H:FOk G prog w A V env) (ih:aJ5 G prog w A V env n) {sts:List Stmt} (R:Rel V m ρ σ s.heap) (h:exR G n sts σ K) (hQ:ResF V ρ s K Q):wpAny (model prog w) A (execs sts env) Q E s:=by
 have ev1:=(aY3 n G V env H.v).1;cases sts with
 | nil=>exact h.elim
 | cons st rest =>
  (refine aA h ?_;intro no0 h1 h2;obtain ⟨t,e⟩:=no0)
  (refine aJ9 (bP9 h1) ?_;intro p eo0;subst eo0)
  clear h h1;(refine aB5 h2 ?_;intro h3 h4)
  (refine aA h4 ?_;intro q hq h5)
  clear h2 h4;dsimp only at h3 h5
  replace h3:=(Bool.and_eq_true ..)▸h3;have hc:aZ4 e=false:=by have:=h3.2;revert this;cases aZ4 e<;>intro this<;>first | rfl | cases this
  obtain ⟨x,px,rfl⟩:∃ x px,t=.Name x px:=by
   have h6:=h3.1;unfold tloc at h6;clear h5;clear h3;cases t<;>first | exact (aT2 (_) (_) (rfl)) | cases h6
  refine wpAny_execs_cons (wpAny_Assign_Name (ev1 _ _ _ _ _ _ _ _ R h5 fun a σ1 v r1 h1 tk1 g1 R1 i1 k1=>?_) (aO0 (by refine rwg (hc ..) ?_;rfl) _ _ _));refine aB7 k1 (fun u_ ht u_=>?_) (fun u_ k2=>?_)
  ·cases ht
  (refine aA k2 ?_;intro y hy k3)
  obtain rfl:=Option.some.inj hy;exact aJ4 H (s:=⟨h1,g1.1,s.drawn,tk1,s.os⟩) R1 i1 k3 fun m2 σ2 h2 tk2 R2 ht2 k4=>rep_ok H ih (s:=⟨h2,g1.1,s.drawn,tk2,s.os⟩) hq (ht2 h3.1) R2 k4 (hQ.step r1 h2 tk2 g1)
theorem cC3 (H:FOk G prog w A V env) (ih:aJ5 G prog w A V env n) {ts:List Expr} {e:Expr} {p:Pos} {rest:List Stmt} (X:∀ (m:Str→Option Value) (σ:St) (K:Fl→St→Prop) (ρ:List Addr) (s:Shared) (Q:Flow→Shared→Prop),Rel V m ρ σ s.heap→G.exo (.Assign ts e p) σ K→ResF V ρ s K Q→wpAny (model prog w) A (exec (.Assign ts e p) env) Q E s)
  (R:Rel V m ρ σ s.heap) (h:ex G (n + 1) (.Assign ts e p::rest) σ K) (hQ:ResF V ρ s K Q):wpAny (model prog w) A (execs (.Assign ts e p::rest) env) Q E s:=by
 have ev1:=(aY3 n G V env H.v).1;refine aB7 h (fun t ht h1=>?_) (fun u_ h1=>?_)
 ·clear h;obtain rfl:=aF7 ht;refine aH6 h1 (fun u_ h2=>?_) (fun hc h2=>?_)<;>clear h1
  ·refine hide fun G_ k_=>?_;(refine aB5 h2 ?_;intro hsw h3)
   refine k_ ?_;exact wpAny_execs_cons (bX8 H hsw R h3 fun m2 σ2 r h2 tk2 g2 R2 k2=>ih _ m2 _ K _ ⟨h2,g2.1,s.drawn,tk2,s.os⟩ Q E R2 k2 (hQ.step r h2 tk2 g2))
  have hc:aZ4 e=false:=by cases q:aZ4 e<;>first | rfl | exact absurd q hc
  refine aH6 h2 (fun u_ h3=>?_) (fun u_ h3=>?_)<;>clear h2
  ·exact wpAny_execs_cons (X _ _ _ _ _ _ R h3 (aN1 ih hQ))
  refine aH6 h3 (fun hn h4=>?_) (fun u_ h4=>?_)<;>clear h3
  ·refine hide fun G_ k_=>?_;(refine aQ9 hn ?_;intro x px eo0;clear X ht;subst eo0)
   refine k_ ?_;refine wpAny_execs_cons (wpAny_Assign_Name (ev1 _ _ _ _ _ _ _ _ R h4 fun a σ1 v r1 h1 tk1 g1 R1 i1 k1=>?_) (aO0 (by refine rwg (hc ..) ?_;rfl) _ _ _));refine aB7 k1 (fun u_ ht u_=>?_) (fun u_ k2=>?_)
   ·cases ht
   ·refine hide fun G_ k_=>?_;(refine aA k2 ?_;intro y hy k3)
    cases hy
    refine k_ ?_;exact aJ4 H (s:=⟨h1,g1.1,s.drawn,tk1,s.os⟩) R1 i1 k3 fun m2 σ2 h2 tk2 R2 u_ k4=>ih _ m2 _ K _ ⟨h2,g1.1,s.drawn,tk2,s.os⟩ Q E R2 k4 (hQ.step r1 h2 tk2 g1)
  refine aB7 h4 (fun q hq h5=>?_) (fun u_ h5=>?_)
  ·refine hide fun G_ k_=>?_;(refine aJ9 (bP6 hq) ?_;intro p' eo0;clear X ht hq;subst eo0)
   refine k_ ?_;refine wpAny_execs_cons (wpAny_Assign_Subscript (ev1 _ _ _ _ _ _ _ _ R h5 fun a σ1 v r1 h1 tk1 g1 R1 i1 k1=>?_) (aO0 (by refine rwg (hc ..) ?_;rfl) _ _ _));refine ev1 _ _ _ _ _ ⟨h1,g1.1,s.drawn,tk1,s.os⟩ _ _ R1 k1 fun x σ2 u r2 h2 tk2 g2 R2 i2 k2=>?_;refine ev1 _ _ _ _ _ ⟨h2,g2.1,s.drawn,tk2,s.os⟩ _ _ R2 k2 fun y σ3 z r3 h3 tk3 g3 R3 i3 k3=>?_;refine hide fun G_ k_=>?_;(refine aA k3 ?_;intro kk hk k4)
   (refine AV.int_el hk i3 ?_;intro t eo0;clear i3;subst eo0)
   refine k_ ?_;refine bW6 (s:=⟨h3,g3.1,s.drawn,tk3,s.os⟩) R3 (i2.more r3) ((i1.more r2).more r3) k4 fun σ4 h4 R4 k5=>?_;rw [append_assoc,append_assoc] at R4;exact ih _ _ _ K _ ⟨h4,g3.1,s.drawn,tk3,s.os⟩ Q E R4 k5 (hQ.step _ h4 tk3 (g1.then (g2.then g3)))
  ·refine hide fun G_ k_=>?_;obtain ⟨hts,sw,he,h6⟩:=aL2 h5;refine k_ ?_;refine wpAny_execs_cons (cW9 H hts hc (he env H.v.scope) (fun Q' hQ'=>ev1 _ _ _ _ _ _ _ _ R h6 fun a σ1 v r1 h1 tk1 g1 R1 i1 k1=>hQ' a σ1 v r1 h1 tk1 g1 R1 i1 k1) fun m2 σ2 r h2 tk2 g2 R2 k2=>?_);exact ih _ m2 _ K _ ⟨h2,g2.1,s.drawn,tk2,s.os⟩ Q E R2 k2 (hQ.step r h2 tk2 g2)
 ·exact wpAny_execs_cons (X _ _ _ _ _ _ R h1 (aN1 ih hQ))
inductive WI (V:Vw) (ρ:List Addr) (s:Shared) (I:Nat→St→Prop) (k:Nat):Shared→Prop
 | mk (m1:Str→Option Value) (σ1:St) (r:List Addr) (h':Heap) (tk':Nat) (g':GB s.gens) (R:Rel V m1 (ρ++r) σ1 h') (hI:I k σ1):WI V ρ s I k ⟨h',g'.1,s.drawn,tk',s.os⟩
set_option tactic.hygienic true in
theorem bW5 (H:FOk G prog w A V env) (X:XOk G prog w A V env):∀ (n:Nat) (hx:List (Addr × Obj)),aJ5 G prog w A (V.plus hx) env n
 | 0,_=>fun u_ u_ u_ u_ u_ u_ u_ u_ u_ h=>h.elim
 | n + 1,hx=>by
  have ih:=bW5 H X n hx;have H':=H.plus hx;have X':=X hx;have ihB:∀ hy,aJ5 G prog w A ((V.plus hx).plus hy) env n:=fun p=>by refine rwg (Vw.plus_plus ..) ?_;exact bW5 H X n _
  clear X;generalize V.plus hx=V at ih H' X' ihB ⊢;intro sts m σ K ρ s Q E R h hQ;have ev1:=(aY3 n G V env H'.v).1;have ev2:=(aY3 n G V env H'.v).2;cases sts with
  | nil=>exact wpAny_execs_nil (hQ.same R .next h s.toks)
  | cons st rest =>
  have exo:G.exo st σ (aE3 K fun σ1=>ex G n rest σ1 K)→wpAny (model prog w) A (execs (st::rest) env) Q E s:=fun h=>wpAny_execs_cons (X' _ _ _ _ _ _ _ _ R h (aN1 ih hQ));cases st with
  | Assign ts e p=>exact cC3 H' ih (fun m σ K ρ s Q R h hQ=>X' _ _ _ _ _ _ _ _ R h hQ) R h hQ
  | AugAssign t op e p =>
   refine aB7 h (fun x hx h1=>?_) (fun u_ h1=>?_)
   ·(refine aI1 hx ?_;intro px eo0;clear h exo hx;subst eo0)
    (refine aB5 h1 ?_;intro hl h2)
    (refine aA h2 ?_;intro old ho h3)
    have hl:=eq_of_beq hl;(refine R.el ?_;intro hw nw eo0 F N P;subst eo0)
    (refine aA3 (P.lo _ _ ho) ?_;intro v hv i)
    rw [H'.nm] at hv;refine wpAny_execs_cons (wpAny_AugAssign_Name (wpAny_loadName_local (H'.v.scope▸H'.v.kind) (by refine (?_:env.scope.names.lookup x=_);refine rwg (H'.v.scope ..) ?_;exact hl) (H'.L.symm▸F.ns) hv ?_));refine ev1 _ _ _ _ _ _ _ _ R h3 fun a σ1 u r1 h1 tk1 g1 R1 i1 k1=>?_;refine inp_ok (s:=⟨h1,g1.1,s.drawn,tk1,s.os⟩) (i.more r1) i1 k1 fun z zv tk kz iz=>?_;exact aJ4 H' (s:=⟨h1,g1.1,s.drawn,tk,s.os⟩) R1 iz kz fun m2 σ2 h2 tk2 R2 u_ k2=>ih _ m2 _ K _ ⟨h2,g1.1,s.drawn,tk2,s.os⟩ Q E R2 k2 (hQ.step r1 h2 tk2 g1)
   ·exact exo h1
  | If t b o p =>
   refine aH6 h (fun u_ h=>?_) (fun u_ h=>?_)
   ·exact exo h
   refine wpAny_execs_cons (wpAny_If (ev2 _ _ _ _ _ _ _ _ R h fun c σ1 r1 h1 tk1 g1 R1 k1=>?_));have k2:=aF3 k1;clear k1;cases c with
   | true=>exact ih _ _ _ _ _ ⟨h1,g1.1,s.drawn,tk1,s.os⟩ _ E R1 k2 (aN1 ih (hQ.step r1 h1 tk1 g1))
   | false=>exact ih _ _ _ _ _ ⟨h1,g1.1,s.drawn,tk1,s.os⟩ _ E R1 k2 (aN1 ih (hQ.step r1 h1 tk1 g1))
  | While t b o p =>
   (refine aG9 h ?_;clear h;intro I k h0 hstep)
   refine wpAny_execs_cons (wpAny_While ?_);refine codeAny_whileLoop (WI V ρ s I) ?_ k (.mk m σ [] s.heap s.toks (.same _) R.toks h0);intro k s' hx_;refine WI.casesOn hx_ ?_;clear hx_;intro m1 σ1 r1 h1 tk1 g1 R1 hI;refine ev2 _ _ _ _ _ ⟨h1,g1.1,s.drawn,tk1,s.os⟩ _ _ R1 (hstep k σ1 hI) fun c σ2 r2 h2 tk2 g2 R2 k2=>?_;have k3:=aF3 k2;rw [append_assoc] at R2;clear k2;cases c with
   | true =>
    refine ih _ _ _ _ _ ⟨h2,g2.1,s.drawn,tk2,s.os⟩ _ _ R2 k3 fun fl σ3 f m3 r3 h3 tk3 g3 R3 i3 k4=>?_;rw [append_assoc] at R3;have nx:again σ.obj.length (fun τ=>∃ j,j < k∧I j τ) σ3→∃ j,j < k∧WI V ρ s I j ⟨h3,g3.1,s.drawn,tk3,s.os⟩:=fun k4=>by
     refine hide fun G_ k_=>?_;obtain ⟨σ5,r5,R5,j,hj,hI'⟩:=aU9 H'.v.gv R.len.1 R.len.2 k4 R3;refine k_ ?_;exact aA0 j hj (.mk m3 σ5 _ h3 tk3 (g1.then (g2.then g3)) R5 hI')
    cases i3 with
    | next=>exact nx k4
    | cont=>exact nx k4
    | brk=>exact ih _ _ _ K _ ⟨h3,g3.1,s.drawn,tk3,s.os⟩ Q E R3 k4 (hQ.step _ h3 tk3 (g1.then (g2.then g3)))
    | ret hv=>exact hQ _ _ _ _ _ h3 tk3 (g1.then (g2.then g3)) R3 (.ret (by rw [append_assoc] at hv;exact hv)) k4
   | false =>
    exact ih _ _ _ _ _ ⟨h2,g2.1,s.drawn,tk2,s.os⟩ _ _ R2 k3 (aN1 (E:=E) ih (hQ.step _ h2 tk2 (g1.then g2)))
  | For t it b o p =>
   refine aH6 h (fun u_ h=>?_) (fun u_ h=>?_)
   ·exact exo h
   ·(refine aB5 h ?_;intro hns h1)
    have hset:∀ x,foldedSetIterable it env x=pure x:=fun x=>by clear h exo h1;clear h;cases it<;>first | rfl | cases hns
    refine aB7 h1 (fun e he h2=>?_) (fun u_ h2=>?_)
    ·exact dC H' ih ihB (aY3 n G V env H'.v) he hset R h2 (aN1 ih hQ)
    ·refine wpAny_execs_cons (wpAny_For (ev1 _ _ _ _ _ _ _ _ R h2 fun a σ1 v r1 h1 tk1 g1 R1 i1 k1=>?_) hset);refine hide fun G_ k_=>?_;refine cQ8 (E:=E) H'.v.gv (s:=⟨h1,g1.1,s.drawn,tk1,s.os⟩) R1 i1 k1 ?_;intro q st X P Sr It S hk_ hsz hstσ hpy;obtain ⟨I,h0,hst,hturn,hdone⟩:=hk_;refine k_ ?_;refine hpy _ fun o' ho' hIt=>?_;exact dA6 H' ih (fun p=>ihB [p]) (s:=⟨h1,g1.1,s.drawn,tk1,s.os⟩) R1 S I h0 hst hturn hdone (aN1 ih (hQ.step r1 h1 tk1 g1)) o' ho' hIt
  | Delete ts p =>
   (refine aA h ?_;intro t ht h0)
   obtain rfl:=aF7 ht;(refine aA h0 ?_;intro q hq h1)
   clear h h0;(refine aJ9 (bP6 hq) ?_;intro p' eo0;clear exo ht hq;subst eo0)
   refine wpAny_execs_cons (wpAny_Delete (wpAny_deleteEach_cons (wpAny_delete_Subscript (ev1 _ _ _ _ _ _ _ _ R h1 fun x σ1 v r1 h1 tk1 g1 R1 i1 k1=>?_))));refine ev1 _ _ _ _ _ ⟨h1,g1.1,s.drawn,tk1,s.os⟩ _ _ R1 k1 fun y σ2 u r2 h2 tk2 g2 R2 i2 k2=>?_;(refine aA k2 ?_;intro kk hk k3)
   (refine AV.int_el hk i2 ?_;intro t eo0;clear i2;subst eo0)
   refine bV5 (s:=⟨h2,g2.1,s.drawn,tk2,s.os⟩) R2 (i1.more r2) k3 fun σ3 h3 R3 k4=>?_;refine wpAny_deleteEach_nil ?_;rw [append_assoc] at R3;exact ih _ _ _ K _ ⟨h3,g2.1,s.drawn,tk2,s.os⟩ Q E R3 k4 (hQ.step _ h3 tk2 (g1.then g2))
  | Return v p =>
   clear exo;cases v with
   | some e=>exact wpAny_execs_cons (wpAny_Return_some (ev1 _ _ _ _ _ _ _ _ R h fun a σ1 v r1 h1 tk1 g1 R1 i1 k1=>hQ _ _ _ _ r1 h1 tk1 g1 R1 (.ret i1) k1))
   | none=>exact wpAny_execs_cons (wpAny_Return_none (hQ.same R (.ret (a:=.none) rfl) h s.toks))
  | Expr e p =>
   (refine aB5 h ?_;intro hc h1)
   refine wpAny_execs_cons (wpAny_Expr_any (ev1 _ _ _ _ _ _ _ _ R h1 fun a σ1 v r1 h1 tk1 g1 R1 i1 k1=>?_) ?_ (aO0 hc _ _ _))
   ·exact ih _ _ _ K _ ⟨h1,g1.1,s.drawn,tk1,s.os⟩ Q E R1 k1 (hQ.step r1 h1 tk1 g1)
   ·unfold interactive;(refine rwg (H'.v.scope ..) ?_;refine rwg (H'.v.kind ..) ?_);rfl
  | Pass p=>exact wpAny_execs_cons (wpAny_Pass (ih _ _ _ K _ _ Q E R h hQ))
  | Break p=>exact wpAny_execs_cons (wpAny_Break (hQ.same R .brk h s.toks))
  | Continue p=>exact wpAny_execs_cons (wpAny_Continue (hQ.same R .cont h s.toks))
  | Assert t mm p =>
   (refine aB5 h ?_;intro hn h1)
   clear h exo;obtain rfl:=Option.isNone_iff_eq_none.mp hn;refine wpAny_execs_cons (wpAny_Assert_new H'.v.g.hh (ev2 _ _ _ _ _ _ _ _ R h1 fun c σ1 r1 h1 tk1 g1 R1 k1=>?_));(refine aE8 k1 ?_;clear k1;intro e k1)
   cases e
   refine rwg (if_pos rfl ..) ?_;exact ih _ _ _ K _ ⟨h1,g1.1,s.drawn,tk1,s.os⟩ Q E R1 k1 (hQ.step r1 h1 tk1 g1)
  | _=>exact exo h
end
noncomputable def gB (base:List AO) (tab:Addr→Option AO) (W:Wd→List (Addr × Obj)→Prop):Gx :=
 {cs:=default,ce:=[],glob:=fun u_=>none,base:=base,tab:=tab,call:=fun u_ u_ u_ u_=>False,fn:=fun u_=>false,meth:=fun u_=>none,vmeth:=fun u_ u_ u_=>none,W:=W,isx:=fun u_=>false,exe:=fun u_ u_ u_=>False,exo:=fun u_ u_ u_=>False}
noncomputable def cY (x y:Str):Bool:=(Builtin.Str.occurrences x y 0 x.length (x.length + 1)).isEmpty
noncomputable def aW4 (x y:Str) (lo hi:Nat):Int:=match Builtin.Str.occurrences x y lo hi 1 with
 | k::_=>(k:Int)
 | []=>-1
noncomputable def aF6 (x y:Str) (i j:Int):Int:=aW4 x y (fromIndex x.length i) (min (fromIndex x.length j) x.length)
noncomputable def bi?:Value→Option String:=bH0 Value.ctorIdx 9 fun t h=>Value.builtin.elim t h some
noncomputable def ty?:Value→Option String:=bH0 Value.ctorIdx 8 fun t h=>Value.type.elim t h some
theorem bi?_is {g:Value} {a:String} (h:bi? g=some a):g=.builtin a :=
 let ⟨hk,h⟩:=aH2 h
 Value.builtin.elim (motive:=fun z=>∀ hk,Value.builtin.elim z hk some=some a→z=.builtin a) g hk (fun u_ u_ h=>congrArg Value.builtin (Option.some.inj h)) hk h
theorem ty?_is {g:Value} {a:String} (h:ty? g=some a):g=.type a :=
 let ⟨hk,h⟩:=aH2 h
 Value.type.elim (motive:=fun z=>∀ hk,Value.type.elim z hk some=some a→z=.type a) g hk (fun u_ u_ h=>congrArg Value.type (Option.some.inj h)) hk h
noncomputable def un? {α:Type}:List α→Option (α × List α)
 | []=>none
 | a::r=>some (a,r)
theorem cT1 {α:Type} {l:List α} {p:α × List α} (h:un? l=some p):l=p.1::p.2:=by
 cases l with
 | nil=>cases h
 | cons a r=>cases h;rfl
noncomputable def bT0 {α:Type} (l:List α):Option (α × α × α):=(un? l).bind fun p=>(cK5 p.2).map fun q=>(p.1,q)
noncomputable def quad? {α:Type} (l:List α):Option (α × α × α × α):=(un? l).bind fun p=>(bT0 p.2).map fun q=>(p.1,q)
theorem aW1 {α:Type} {l:List α} {q:α × α × α} (h:bT0 l=some q):l=[q.1,q.2.1,q.2.2]:=by
 (refine aA1 h ?_;intro p hp h)
 (refine aB9 h ?_;intro q hq eo0;clear h;clear h;subst eo0)
 (refine rwg (cT1 hp ..) ?_;refine rwg (aN0 hq ..) ?_;rfl)
theorem cM {α:Type} {l:List α} {q:α × α × α × α} (h:quad? l=some q):l=[q.1,q.2.1,q.2.2.1,q.2.2.2]:=by
 (refine aA1 h ?_;intro p hp h)
 (refine aB9 h ?_;intro q hq eo0;clear h;clear h;subst eo0)
 (refine rwg (cT1 hp ..) ?_;refine rwg (aW1 hq ..) ?_;rfl)
noncomputable def aS7 (G:Gx) (g:Value) (as:List AV) (σ:St) (K:AV→St→Prop):Prop:=aI6 (bi? g) (fun id =>
  aI6 (aY2 as) (fun a=>sel (id=="len") (aI6 a.str? (fun x=>x.length≤16777216∧K (.int x.length) σ) <| aB4 (aB G σ a) fun xs=>xs.length≤16777216∧K (.int xs.length) σ) <|
   sel (id=="str.upper") (aB4 a.str? fun x=>x.length≤5592405∧K (.str (Txt.upper x)) σ) <|
   sel (id=="ord") (aB4 a.str? fun x=>x.length=1∧K (.int (x.cps.getD 0 0:Nat)) σ) <|
   sel (id=="sum") (aB4 (aB G σ a) fun xs=>aB4 (aD6 AV.int? xs) fun ns=>K (.int ns.sum) σ) <|
   aG8 (id=="chr") (aB4 a.int? fun i=>(0≤i∧i≤1114111)∧K (.str ⟨#[i.toNat]⟩) σ)) <|
  aI6 (cK5 as) (fun p=>aG8 (id=="str.join") <| aB4 p.1.str? fun x=>aB4 (aB G σ p.2) fun xs=>aB4 (aD6 AV.str? xs) fun ys=>((ys.map (·.length)).sum + ys.length * x.length≤16777216)∧K (.str (Txt.join x ys)) σ) <|
  aI6 (bT0 as) (fun p=>aG8 (id=="str.replace") <| aB4 p.1.str? fun x=>aB4 p.2.1.str? fun y=>aB4 p.2.2.str? fun z=>cY x y=true∧K (.str x) σ) <|
  aB4 (quad? as) fun p=>aG8 (id=="str.find") <| aB4 p.1.str? fun x=>aB4 p.2.1.str? fun y=>aB4 p.2.2.1.int? fun i=>aB4 p.2.2.2.int? fun j=>K (.int (aF6 x y i j)) σ) <|
 aB4 (ty? g) fun T =>
  aI6 (aY2 as) (fun a=>sel (T=="range") (aB4 a.int? fun j=>σ.mkK (.rng 0 j 1) fun k=>K (.obj k)) <| aG8 (T=="list") <| aB4 (cF3 G σ a) fun r=>aG8 (r.2.2==1) <| (Builtin.Range.small r.1 r.2.1 1=true∧(r.2.1 - r.1).toNat≤2 ^ 24)∧σ.mkK (.list ((rangeInts r.1 1 (r.2.1 - r.1).toNat).map .int)) fun k=>K (.obj k)) <|
  aI6 (cK5 as) (fun p=>aG8 (T=="range") <| aB4 p.1.int? fun i=>aB4 p.2.int? fun j=>σ.mkK (.rng i j 1) fun k=>K (.obj k)) <|
  aB4 (bT0 as) fun p=>aG8 (T=="range") <| aB4 p.1.int? fun i=>aB4 p.2.1.int? fun j=>aB4 p.2.2.int? fun k=>(k≠0∧Builtin.divisionGoesByPylong (j - i) k=false)∧σ.mkK (.rng i j k) fun k=>K (.obj k)
noncomputable def bM7 (nm:Str):Option String :=
 if nm==ofString "upper" then some "str.upper" else if nm==ofString "join" then some "str.join" else if nm==ofString "find" then some "str.find" else if nm==ofString "replace" then some "str.replace" else none
section
variable {prog:Program} {w:World} {A:Around} {h₀:Heap} {β:List Addr} {V:Vw} {m:Str→Option Value} {σ:St} {ρ:List Addr} {s:Shared} {Q:Value→Shared→Prop} {E:Value→Shared→Prop} {K:AV→St→Prop} {base:List AO} {tab:Addr→Option AO} {W:Wd→List (Addr × Obj)→Prop}
theorem gB_ok (hh:A.handled=none) (hu:A.units + 64 < cLine) (ar:A.depth≤330∧A.units≤430∧∃ outer,A.frames=some outer) (hb:∀ (n:Nat) (ao:AO),base[n]?=some ao→∃ a o,β[n]?=some a∧h₀.get? a=some o∧ao.Is β [] o) (ht:∀ (a:Addr) (ao:AO),tab a=some ao→∃ o,h₀.get? a=some o∧ao.Is β [] o) (hf:∀ (wd:Wd) (l:List (Addr × Obj)) (a:Addr) (ao:AO),W wd l→wd.fz a=some ao→∃ o,(a,o)∈l∧∀ β ρ,ao.Is β ρ o)
  (hz:∀ (wd:Wd) (l:List (Addr × Obj)) (a:Addr) (o:Obj) (ao:AO),W wd l→(∀ β ρ,ao.Is β ρ o)→W (wd.add a ao) ((a,o)::l)):GOk (gB base tab W) prog w A h₀ β where
 hh:=hh
 hu:=hu
 ar:=ar
 glob:=fun u_ u_ u_ u_ u_ u_ u_ u_ u_ u_ u_ u_ h=>nomatch h
 base:=hb
 tab:=ht
 call:=fun u_ u_ u_ u_ u_ u_ u_ u_ u_ u_ u_ u_ u_ u_ u_ u_ h=>h.elim
 fn:=fun u_ h=>nomatch h
 meth:=fun u_ u_ h=>nomatch h
 vmeth:=fun u_ u_ u_ u_ u_ u_ u_ u_ u_ u_ u_ u_ u_ u_ h=>nomatch h
 fz:=hf
 frz:=hz
theorem bM4 (x y:Str) (i j:Int) (t u v v':Tok):Gives (Builtin.«str.find» ⟨[.str x t,.str y u,.int i v,.int j v'],[]⟩) (.int (aF6 x y i j)):=by
 unfold aF6 aW4;refine (?_:Gives (match Builtin.Str.occurrences x y (fromIndex x.length i) (min (fromIndex x.length j) x.length) 1 with | k::_=>retInt k | []=>(do rule "str.find.not-found";retInt (-1))) _);cases Builtin.Str.occurrences x y (fromIndex x.length i) (min (fromIndex x.length j) x.length) 1 with
 | nil=>exact .rule (.of_eq rfl)
 | cons k _=>exact .of_eq rfl
theorem find4 {x y:Str} {i j:Int} {t u v v':Tok} (hq:Q (.int (aF6 x y i j) s.toks) {s with toks:=s.toks + 1}):wpAny (model prog w) A (call (.builtin "str.find") [.str x t,.str y u,.int i v,.int j v']) Q E s:=by
 exact call_gives F.slot_str_find (typeIs_str _ _ _) F.entry_str_find (F.args_str_find_4 _ _ _ _) (bM4 x y i j t u v v') hq
theorem bL0 {x y z:Str} {t u v:Tok} (hno:cY x y=true) (hq:Q (.str x t) s):wpAny (model prog w) A (call (.builtin "str.replace") [.str x t,.str y u,.str z v]) Q E s:=by
 unfold cY at hno;refine call_gives F.slot_str_replace (typeIs_str _ _ _) F.entry_str_replace (F.args_str_replace_3 _ _ _) (gives_str_replace x y z t u v fun h=>by replace h:=(hno ..)▸h;cases h) ?_;refine rwg (hno ..) ?_;simp only [Bool.true_or,if_true]
 exact hq
theorem aW5 {hw nw:List (Addr × Obj)} {o:Obj} {ao:AO} (P:Pcs V σ m hw nw) (F:Fr V.h₀ V.L s.heap m) (N:News V.h₀ V.L s.heap (hw++nw)) (ho:(s.heap.push o).get? s.heap.objs.size=some o) (hi:ao.Is V.β (nw.map (·.1)) o) (hQ:Res V m (nw.map (·.1)) s K Q) (hK:K (.obj σ.obj.length) (σ.mk' ao)) (tk:Nat):Q (.ref s.heap.objs.size) ⟨s.heap.push o,s.gens,s.drawn,tk,s.os⟩:=by
 have hn:s.heap.get? s.heap.objs.size=none:=Heap.get?_none_of_le (le_refl _);have hb:=cM3 F N (h':=s.heap.push o) (D:=s.heap.objs.size) (fun b o x=>Heap.get?_push_of_some _ x) ho hn;exact Rel.made P N hb.1 hb.2.1 (le_refl _) hi hQ hK tk
theorem aT (H:GV (gB base tab W) prog w A V) {g:Value} {as:List AV} {vs:List Value} (R:Rel V m ρ σ s.heap) (i:AllIs V.β ρ as vs) (h:aS7 (gB base tab W) g as σ K) (hQ:Res V m ρ s K Q) :
  wpAny (model prog w) A (call g vs) Q E s:=by
 refine aB7 h (fun id hg h=>?_) (fun u_ h=>?_)
 ·refine rwg (bi?_is hg ..) ?_;clear hg;refine aB7 h (fun a ha h=>?_) (fun u_ h=>?_)
  ·replace i:=(aF7 ha ..)▸i;refine i.v1 fun u_ ia=>?_;refine aH6 h (fun e h=>?_) (fun u_ h=>?_)
   ·clear h;obtain rfl:=eq_of_beq e;refine aB7 h (fun x hx h1=>?_) (fun u_ h1=>?_)
    ·(refine AV.str_el hx ia ?_;intro t eo0;clear ia;subst eo0)
     exact SBL.len (by have:=h1.1;omega) (hQ.same R (aJ6 _) h1.2 _)
    ·(refine aA h1 ?_;intro xs hx h2)
     (refine aE H R ia hx ?_;intro l vs eo0 hl i;clear ia;subst eo0)
     refine len_list hl (by (refine rwg (size_toArray ..) ?_;refine rwb (i.length ..) ?_);have:=h2.1;omega) ?_;(refine rwg (size_toArray ..) ?_;refine rwb (i.length ..) ?_)
     exact hQ.same R (aJ6 _) h2.2 _
   refine aH6 h (fun e h=>?_) (fun u_ h=>?_)
   ·clear h;obtain rfl:=eq_of_beq e;(refine aA h ?_;intro x hx h1)
    (refine AV.str_el hx ia ?_;intro t eo0;clear ia;subst eo0)
    exact SCL.upper h1.1 fun u_=>hQ.same R (aF5 _) h1.2 _
   refine aH6 h (fun e h=>?_) (fun u_ h=>?_)
   ·clear h;clear h;clear h;obtain rfl:=eq_of_beq e;(refine aA h ?_;intro x hx h1)
    (refine AV.str_el hx ia ?_;intro t eo0;clear ia;subst eo0)
    exact ord_of_one h1.1 (hQ.same R (aJ6 _) h1.2 _)
   refine aH6 h (fun e h=>?_) (fun u_ h=>?_)
   ·clear h;clear h;clear h;obtain rfl:=eq_of_beq e;(refine aA h ?_;intro xs hx h1)
    (refine aA h1 ?_;intro ns hn h2)
    (refine aE H R ia hx ?_;intro l vs eo0 hl i;clear ia;subst eo0)
    (refine R.el ?_;intro hw nw eo0 F N P;clear R;subst eo0)
    exact LSm.sum_ints F N H.g.hh hl (i.ints hn) fun h' tk t' F' N'=>hQ _ σ _ [] h' tk (.same _) (P.rel F' N').toks (aJ6 t') h2
   ·(refine aB5 h ?_;intro e h)
    clear h;clear h;clear h;obtain rfl:=eq_of_beq e;(refine aA h ?_;intro x hx h1)
    (refine AV.int_el hx ia ?_;intro t eo0;clear ia;subst eo0)
    exact chr_of_range h1.1.1 h1.1.2 (hQ.same R (aF5 _) h1.2 _)
  refine aB7 h (fun p ha h=>?_) (fun u_ h=>?_)
  ·replace i:=(aN0 ha ..)▸i;(refine aB5 h ?_;intro e h)
   clear h;obtain rfl:=eq_of_beq e;(refine aA h ?_;intro x hx h)
   (refine aA h ?_;intro xs hxs h)
   (refine aI8 (aH1 h) ?_;intro ys hys h1 h2)
   refine i.v2 fun u_ u_ ia ib=>?_;(refine AV.str_el hx ia ?_;intro t eo0;clear ia;subst eo0)
   (refine aE H R ib hxs ?_;intro l vs eo0 hl i;clear ib;subst eo0)
   exact join_list hl (i.strs hys) h1 fun t' k=>hQ.same R (aF5 _) h2 _
  refine aB7 h (fun p ha h=>?_) (fun u_ h=>?_)
  ·replace i:=(aW1 ha ..)▸i;(refine aB5 h ?_;intro e h)
   clear h;obtain rfl:=eq_of_beq e;(refine aA h ?_;intro x hx h)
   (refine aA h ?_;intro y hy h)
   (refine aI8 (aH1 h) ?_;intro z hz h1 h2)
   refine i.v3 fun u_ u_ u_ ia ib ic=>?_;(refine AV.str_el hx ia ?_;intro t eo0;clear ia;subst eo0)
   (refine AV.str_el hy ib ?_;intro u eo0;clear ib;subst eo0)
   (refine AV.str_el hz ic ?_;intro v eo0;clear ic;subst eo0)
   exact bL0 h1 (hQ.same R (aF5 _) h2 _)
  ·(refine aA h ?_;intro p ha h)
   replace i:=(cM ha ..)▸i;(refine aB5 h ?_;intro e h)
   clear h;obtain rfl:=eq_of_beq e;(refine aA h ?_;intro x hx h)
   (refine aA h ?_;intro y hy h)
   (refine aA h ?_;intro z hz h)
   (refine aA h ?_;intro z' hz' h)
   refine i.v4 fun u_ u_ u_ u_ ia ib ic id=>?_;(refine AV.str_el hx ia ?_;intro t eo0;clear ia;subst eo0)
   (refine AV.str_el hy ib ?_;intro u eo0;clear ib;subst eo0)
   (refine AV.int_el hz ic ?_;intro v eo0;clear ic;subst eo0)
   (refine AV.int_el hz' id ?_;intro v' eo0;clear id;subst eo0)
   exact find4 (hQ.same R (aJ6 _) h _)
 ·(refine aA h ?_;intro T hg h)
  refine rwg (ty?_is hg ..) ?_;clear hg;refine aB7 h (fun a ha h=>?_) (fun u_ h=>?_)
  ·replace i:=(aF7 ha ..)▸i;refine i.v1 fun u_ ia=>?_;refine aH6 h (fun e h=>?_) (fun u_ h=>?_)
   ·clear h;obtain rfl:=eq_of_beq e;(refine aA h ?_;intro y hy h)
    (refine AV.int_el hy ia ?_;intro t eo0;clear ia;subst eo0)
    (refine R.el ?_;intro hw nw eo0 F N P;clear R;clear i;subst eo0)
    exact call_range_1 (aW5 (ao:=.rng 0 y 1) P F N (Heap.get?_push_size _ rfl) ⟨_,_,_,rfl⟩ hQ (aJ h) _)
   (refine aB5 h ?_;intro e h)
   clear h;clear h;obtain rfl:=eq_of_beq e;(refine aA h ?_;intro no0 hr h;obtain ⟨a,b,c⟩:=no0)
   (refine aB5 h ?_;intro e h)
   obtain rfl:c=1:=eq_of_beq e;(refine aM0 (cT H R ia hr) ?_;intro l t u z eo0 hl;clear ia;subst eo0)
   (refine R.el ?_;intro hw nw eo0 F N P;clear R;clear i;subst eo0)
   refine bN4 H.g.hh F N hl h.1.1 h.1.2 fun h' tk D ys n F' N' hi hlt=>?_;have R2:=P.new (ao:=.list ((rangeInts a 1 (b - a).toNat).map .int)) F' N' (fun p hp=>ne_of_lt (hlt p hp)) ⟨ys,n,rfl,bR4 hi⟩;exact hQ _ _ _ [D] h' tk (.same _) R2 (bB (by (refine rwg (length_map ..) ?_;refine rwg (P.len ..) ?_;rfl))) (aJ h.2)
  refine aB7 h (fun p ha h=>?_) (fun u_ h=>?_)
  ·replace i:=(aN0 ha ..)▸i;(refine aB5 h ?_;intro e h)
   clear h;obtain rfl:=eq_of_beq e;(refine aA h ?_;intro x hx h)
   (refine aA h ?_;intro y hy h)
   refine i.v2 fun u_ u_ ia ib=>?_;(refine AV.int_el hx ia ?_;intro t eo0;clear ia;subst eo0)
   (refine AV.int_el hy ib ?_;intro u eo0;clear ib;subst eo0)
   (refine R.el ?_;intro hw nw eo0 F N P;clear R;clear i;subst eo0)
   exact call_range_2 (aW5 (ao:=.rng x y 1) P F N (Heap.get?_push_size _ rfl) ⟨_,_,_,rfl⟩ hQ (aJ h) _)
  ·(refine aA h ?_;intro p ha h)
   replace i:=(aW1 ha ..)▸i;(refine aB5 h ?_;intro e h)
   clear h;obtain rfl:=eq_of_beq e;(refine aA h ?_;intro x hx h)
   (refine aA h ?_;intro y hy h)
   (refine aI8 (aH1 h) ?_;intro z hz hne h)
   refine i.v3 fun u_ u_ u_ ia ib ic=>?_;(refine AV.int_el hx ia ?_;intro t eo0;clear ia;subst eo0)
   (refine AV.int_el hy ib ?_;intro u eo0;clear ib;subst eo0)
   (refine AV.int_el hz ic ?_;intro v eo0;clear ic;subst eo0)
   (refine R.el ?_;intro hw nw eo0 F N P;clear R;clear i;subst eo0)
   exact call_range_3 hne.1 (aW5 (ao:=.rng x y z) P F N (Heap.get?_push_size _ rfl) ⟨_,_,_,rfl⟩ hQ (aJ h) _) (.inl hne.2)
set_option tactic.hygienic true in
theorem bX5 {nm:Str} {id:String} (h:bM7 nm=some id) (x:Str) (t:Tok) (s:Shared) (pl:Sem Bool) (Q:Value × List Value→Shared→Prop) (E:Value→Shared→Prop) (hQ:Q (.builtin id,[.str x t]) s):wpAny (model prog w) A (getMethod (.str x t) nm pl) Q E s:=by
 unfold bM7 at h;split at h
 ·rename_i e;obtain rfl:=eq_of_beq e;cases h;exact GM.upper hQ
 split at h
 ·rename_i e;obtain rfl:=eq_of_beq e;cases h;exact GM.join hQ
 split at h
 ·rename_i e;obtain rfl:=eq_of_beq e;cases h;exact GM.find hQ
 split at h
 ·rename_i e;obtain rfl:=eq_of_beq e;cases h;exact GM.replace hQ
 ·cases h
end
structure Hk where
 isx:Expr→Bool
 exe:Gx→Expr→St→(AV→St→Prop)→Prop
 exo:Gx→Stmt→St→(Fl→St→Prop)→Prop
structure Un where
 K:Frag
 glob:Str→Option Value
 tab:Addr→Option AO
 W:Wd→List (Addr × Obj)→Prop
 isPrim:Value→Bool
 prim:Gx→Value→List AV→St→(AV→St→Prop)→Prop
 fn:Value→Bool
 vmeth:Wd→Addr→Str→Option Addr
 hk:Addr→Hk
noncomputable def Un.G0 (U:Un) (call:List AO→Value→List AV→St→(AV→St→Prop)→Prop) (f:Addr) (cs:Scope) (ce:List (Str × Nat)) (base:List AO):Gx :=
 {cs:=cs,ce:=ce,glob:=U.glob,base:=base,tab:=U.tab,call:=call base,fn:=U.fn,meth:=bM7,vmeth:=U.vmeth,W:=U.W,isx:=(U.hk f).isx,exe:=fun u_ u_ u_=>False,exo:=fun u_ u_ u_=>False}
noncomputable def Un.G (U:Un) (call:List AO→Value→List AV→St→(AV→St→Prop)→Prop) (f:Addr) (cs:Scope) (ce:List (Str × Nat)) (base:List AO):Gx :=
 {U.G0 call f cs ce base with exe:=(U.hk f).exe (U.G0 call f cs ce base),exo:=(U.hk f).exo (U.G0 call f cs ce base)}
noncomputable def bC9 (K:Frag) (g:Value):Option (Addr × FuncData):=match g with
 | .ref f=>(K.lookup f).bind fun o=>match o.data with
  | .func fd=>some (f,fd)
  | _=>none
 | _=>none
noncomputable def bW7 (fd:FuncData):Option (List Stmt):=match fd.body with
 | .stmts b=>some b
 | _=>none
noncomputable def aB8:List (Str × NameKind)→List Str→List Str
 | [],acc=>acc
 | (x,k)::r,acc=>if k==.cell then aB8 r (x::acc) else aB8 r acc
noncomputable def bV3:List Str→Nat→List (Str × Nat)
 | [],_=>[]
 | x::r,i=>(x,i)::bV3 r (i + 1)
noncomputable def aT7 (cs:Scope) (bs:List (Str × AV)):List (Str × AV):=bs.filter fun p=>cs.names.lookup p.1==some .local
noncomputable def aL4 (cn:List Str) (bs:List (Str × AV)):List AO:=cn.map fun x=>.cell (bs.lookup x)
noncomputable def up (pb:List (AV × AO)):AV→Option AV
 | .par j=>pb[j]?.map (·.1)
 | .obj _=>none
 | a=>some a
noncomputable def upO (pb:List (AV × AO)):AO→Option AO
 | .list xs=>(xs.mapM (up pb)).map .list
 | .tup xs=>(xs.mapM (up pb)).map .tup
 | .raw o=>some (.raw o)
 | .rng a b c=>some (.rng a b c)
 | _=>none
noncomputable def dn (pb:List (AV × AO)) (n0:Nat):AV→Option AV
 | .par j=>pb[j]?.map (·.1)
 | .obj k=>some (.obj (n0 + k))
 | a=>some a
noncomputable def dnO (pb:List (AV × AO)) (n0:Nat):AO→Option AO
 | .list xs=>(xs.mapM (dn pb n0)).map .list
 | .tup xs=>(xs.mapM (dn pb n0)).map .tup
 | .raw o=>some (.raw o)
 | .rng a b c=>some (.rng a b c)
 | _=>none
noncomputable def aR6 (fd:FuncData):List Str:=fd.params.args.map (·.arg)
noncomputable def fdOk (K:Frag) (fd:FuncData):Bool :=
 fd.globals==mainGlobals && fd.closure.isEmpty && fd.builtins==builtinsNs && fd.scope.kind==.function && !fd.scope.isGenerator && !fd.scope.isCoroutine && codeIn K fd.code fd.qualname && aT8 (aR6 fd) &&
 (aR6 fd).all (fun x=>fd.scope.names.lookup x==some .local || fd.scope.names.lookup x==some .cell) && aT8 (aB8 fd.scope.names []) && (aB8 fd.scope.names []).all (fun x=>fd.scope.names.lookup x==some .cell)
noncomputable def cG6 (fd:FuncData):Prop:=∀ vs:List Value,vs.length=(aR6 fd).length→bindArgs fd ⟨vs,[]⟩=pure ((aR6 fd).zip vs)
noncomputable def dB3 (pb:List (AV × AO)) (σ:St) (K:AV→St→Prop):Fl→St→Prop:=fun fl σ'=>match fl with
 | .ret a=>∃ sel σ'' a' a'' os,(aM2 0 σ'.obj.length sel && aP sel)=true∧bF2 0 sel ⟨[],σ'.obj,σ'.wd⟩=some σ''∧bD6 0 sel a=some a'∧dn pb σ.obj.length a'=some a''∧σ''.obj.mapM (dnO pb σ.obj.length)=some os∧K a'' ⟨σ.loc,σ.obj++os,σ'.wd⟩
 | .next=>K .none ⟨σ.loc,σ.obj,σ'.wd⟩
 | _=>False
noncomputable def aY9 (G:Gx) (σ:St) (a:AV):Option AO:=match a with
 | .fz _=>none
 | a=>bO2 G σ a
noncomputable def cX1 (U:Un) (call:List AO→Value→List AV→St→(AV→St→Prop)→Prop) (G:Gx) (f:Addr) (fd:FuncData) (as:List AV) (σ:St) (K:AV→St→Prop):Prop :=
 (fdOk U.K fd=true∧cG6 fd∧as.length=(aR6 fd).length)∧aB4 (bW7 fd) fun body=>∃ (pb:List (AV × AO)) (as':List AV),(as'.mapM (up pb)=some as∧∀ p∈pb,∃ ao,aY9 G σ p.1=some ao∧upO pb p.2=some ao) ∧
  ex (U.G call f fd.scope (bV3 (aB8 fd.scope.names []) 0) (pb.map (·.2))) 60 body ⟨aT7 fd.scope ((aR6 fd).zip as'),aL4 (aB8 fd.scope.names []) ((aR6 fd).zip as'),σ.wd⟩ (dB3 pb σ K)
@[irreducible] noncomputable def aG6 (p:Prop):Prop:=p
theorem bE4 (p:Prop):aG6 p=p:=by unfold aG6;rfl
theorem bB0 {p:Prop} (h:p):aG6 p:=(bE4 p).symm▸h
noncomputable def cI8 (U:Un) (call:List AO→Value→List AV→St→(AV→St→Prop)→Prop) (b:List AO) (g:Value) (as:List AV) (σ:St) (K:AV→St→Prop):Prop:=match g with
 | .ref f=>aG6 (call b (.ref f) as σ K)
 | g=>aS7 (gB b U.tab U.W) g as σ K
noncomputable def aF4 (U:Un):Nat→List AO→Value→List AV→St→(AV→St→Prop)→Prop
 | 0,base,g,as,σ,K=>sel (U.isPrim g) (U.prim (gB base U.tab U.W) g as σ K) (aS7 (gB base U.tab U.W) g as σ K)
 | n + 1,base,g,as,σ,K=>sel (U.isPrim g) (U.prim (gB base U.tab U.W) g as σ K) <| aI6 (bC9 U.K g) (fun p=>cX1 U (cI8 U (aF4 U n)) (gB base U.tab U.W) p.1 p.2 as σ K) (aS7 (gB base U.tab U.W) g as σ K)
theorem bU8 (U:Un) (base:List AO) (g:Value) (as:List AV) (σ:St) (K:AV→St→Prop):aF4 U 0 base g as σ K=sel (U.isPrim g) (U.prim (gB base U.tab U.W) g as σ K) (aS7 (gB base U.tab U.W) g as σ K):=rfl
theorem bA2 (U:Un) (n:Nat) (base:List AO) (g:Value) (as:List AV) (σ:St) (K:AV→St→Prop):aF4 U (n + 1) base g as σ K=(sel (U.isPrim g) (U.prim (gB base U.tab U.W) g as σ K) <| aI6 (bC9 U.K g) (fun p=>cX1 U (cI8 U (aF4 U n)) (gB base U.tab U.W) p.1 p.2 as σ K) (aS7 (gB base U.tab U.W) g as σ K)):=rfl
structure AOk (k:Nat) (A:Around):Prop where
 hh:A.handled=none
 d:A.depth + k≤330
 u:A.units + 3 * k≤430
 fr:∃ outer,A.frames=some outer
theorem AOk.deeper {k:Nat} {A:Around} (h:AOk (k + 1) A) (env:Env):AOk k (A.deeper env):=by
 refine ⟨h.hh,?_,?_,?_⟩
 ·have:=h.d;refine (?_:A.depth + 1 + k≤330);lia
 ·have:=h.u;refine (?_:A.units + 3 + 3 * k≤430);lia
 ·(refine aJ9 (h.fr) ?_;intro o e);exact ⟨env::o,by refine (?_:A.frames.map _=_);refine rwg (e ..) ?_;rfl⟩
theorem AOk.mono {k j:Nat} {A:Around} (h:AOk k A) (hj:j≤k):AOk j A:=⟨h.hh,by have:=h.d;lia,by have:=h.u;lia,h.fr⟩
theorem AOk.hu {k:Nat} {A:Around} (h:AOk k A):A.units + 64 < cLine:=by have:=h.u;refine (?_:A.units + 64 < 9900);lia
theorem AOk.ar {k:Nat} {A:Around} (h:AOk k A):A.depth≤330∧A.units≤430∧∃ outer,A.frames=some outer:=⟨by have:=h.d;lia,by have:=h.u;lia,h.fr⟩
noncomputable abbrev Un.call (U:Un) (n:Nat):List AO→Value→List AV→St→(AV→St→Prop)→Prop:=cI8 U (aF4 U n)
noncomputable def aR1 (base:List AO) (β:List Addr) (h₀:Heap):Prop:=∀ (n:Nat) (ao:AO),base[n]?=some ao→∃ a o,β[n]?=some a∧h₀.get? a=some o∧ao.Is β [] o
noncomputable def aK9 (fd:FuncData) (f L:Addr):Env:=PySem.W.envX fd.qualname fd.scope L f fd.code (cellsFrom (L + 1) fd.scope.names [])
noncomputable abbrev UOk.globT (U:Un) (prog:Program) (w:World) (XT:Heap→Prop) (j:Nat):Prop:=∀ h₀,XT h₀→∀ (A:Around) (env:Env) (x:Str) (v:Value) (s:Shared) (L:Addr) (m:Str→Option Value) (Q:Value→Shared→Prop) (E:Value→Shared→Prop) (pos:Pos),env.globals=mainGlobals→env.builtins=builtinsNs→env.scope.kind=.function→U.glob x=some v→env.scope.names.lookup x=some .globalImplicit→(x==ofString "__debug__")=false→Fr h₀ L s.heap m→Q v s→wpAny (model prog w) A (eval (.Name x pos) env) Q E s
noncomputable abbrev UOk.fzT (U:Un) (prog:Program) (w:World) (XT:Heap→Prop) (j:Nat):Prop:=∀ (wd:Wd) (l:List (Addr × Obj)) (a:Addr) (ao:AO),U.W wd l→wd.fz a=some ao→∃ o,(a,o)∈l∧∀ β ρ,ao.Is β ρ o
noncomputable abbrev UOk.frzT (U:Un) (prog:Program) (w:World) (XT:Heap→Prop) (j:Nat):Prop:=∀ (wd:Wd) (l:List (Addr × Obj)) (a:Addr) (o:Obj) (ao:AO),U.W wd l→(∀ β ρ,ao.Is β ρ o)→U.W (wd.add a ao) ((a,o)::l)
noncomputable abbrev UOk.vmethT (U:Un) (prog:Program) (w:World) (XT:Heap→Prop) (j:Nat):Prop:=∀ (A:Around) (V:Vw) (m:Str→Option Value) (σ:St) (a:Addr) (nm:Str) (g:Addr) (ρ:List Addr) (s:Shared) (pl:Sem Bool) (Q:Value × List Value→Shared→Prop) (E:Value→Shared→Prop),AOk j A→XT V.h₀→V.Over U.W→Rel V m ρ σ s.heap→U.vmeth σ.wd a nm=some g→(aR2 (model prog w) V.h₀ (.ref g)→Q (.ref g,[.ref a]) s)→wpAny (model prog w) A (getMethod (.ref a) nm pl) Q E s
noncomputable abbrev UOk.primT (U:Un) (prog:Program) (w:World) (XT:Heap→Prop) (j:Nat):Prop:=∀ (A:Around) (base:List AO) (V:Vw) (m:Str→Option Value) (g:Value) (as:List AV) (σ:St) (K:AV→St→Prop) (vs:List Value) (ρ:List Addr) (s:Shared) (Q:Value→Shared→Prop) (E:Value→Shared→Prop),AOk j A→XT V.h₀→aR1 base V.β V.h₀→V.Over U.W→Rel V m ρ σ s.heap→AllIs V.β ρ as vs→U.isPrim g=true→U.prim (gB base U.tab U.W) g as σ K→Res V m ρ s K Q→wpAny (model prog w) A (call g vs) Q E s
noncomputable abbrev UOk.exeT (U:Un) (prog:Program) (w:World) (XT:Heap→Prop) (j:Nat):Prop:=∀ (f:Addr) (fd:FuncData),bC9 U.K (.ref f)=some (f,fd)→∀ (A:Around) (G:Gx) (V:Vw) (e:Expr) (m:Str→Option Value) (σ:St) (K:AV→St→Prop) (ρ:List Addr) (s:Shared) (Q:Value→Shared→Prop) (E:Value→Shared→Prop),AOk j A→XT V.h₀→FOk G prog w A V (aK9 fd f V.L)→G.W=U.W→Rel V m ρ σ s.heap→(U.hk f).exe G e σ K→Res V m ρ s K Q→wpAny (model prog w) A (eval e (aK9 fd f V.L)) Q E s
noncomputable abbrev UOk.exoT (U:Un) (prog:Program) (w:World) (XT:Heap→Prop) (j:Nat):Prop:=∀ (f:Addr) (fd:FuncData),bC9 U.K (.ref f)=some (f,fd)→∀ (A:Around) (G:Gx) (V:Vw) (st:Stmt) (m:Str→Option Value) (σ:St) (K:Fl→St→Prop) (ρ:List Addr) (s:Shared) (Q:Flow→Shared→Prop) (E:Value→Shared→Prop),AOk j A→XT V.h₀→FOk G prog w A V (aK9 fd f V.L)→XOk G prog w A V (aK9 fd f V.L)→G.W=U.W→Rel V m ρ σ s.heap→(U.hk f).exo G st σ K→ResF V ρ s K Q→wpAny (model prog w) A (exec st (aK9 fd f V.L)) Q E s
structure UOk (U:Un) (prog:Program) (w:World) (XT:Heap→Prop) (j:Nat):Prop where
 keeps:∀ h h':Heap,XT h→(∀ b o,h.get? b=some o→h'.get? b=some o)→XT h'
 inn:∀ h,XT h→U.K.In h
 nolim:∀ h,XT h→h.NoLimit
 glob:UOk.globT U prog w XT j
 tab:∀ h₀ β,XT h₀→∀ a ao,U.tab a=some ao→∃ o,h₀.get? a=some o∧ao.Is β [] o
 fz:UOk.fzT U prog w XT j
 frz:UOk.frzT U prog w XT j
 fn:∀ h₀ g,XT h₀→U.fn g=true→aR2 (model prog w) h₀ g
 vmeth:UOk.vmethT U prog w XT j
 prim:UOk.primT U prog w XT j
 exe:UOk.exeT U prog w XT j
 exo:UOk.exoT U prog w XT j
theorem aD8:∀ (names:List (Str × NameKind)) (n:Nat) (acc:List (Str × Addr)) (acc':List Str),acc.map (·.1)=acc'→(cellsFrom n names acc).map (·.1)=aB8 names acc'
 | [],n,acc,acc',h=>h
 | (x,k)::r,n,acc,acc',h=>by
  unfold cellsFrom aB8;split
  ·exact aD8 r _ _ _ (by (refine rwg (map_cons ..) ?_;refine rwg (h ..) ?_;rfl))
  ·exact aD8 r _ _ _ h
theorem aX:∀ {l:List Str},aT8 l=true→l.Nodup
 | [],_=>nodup_nil
 | i::r,h=>by
  unfold aT8 at h;rw [Bool.and_eq_true,Bool.not_eq_true',List.any_eq_false] at h;exact nodup_cons.mpr ⟨fun hm=>h.1 i hm (beq_self_eq_true i),aX h.2⟩
set_option tactic.hygienic true in
theorem bR:∀ {l:List Str} {i k:Nat} {x:Str},(bV3 l i).lookup x=some k→∃ j,k=i + j∧l[j]?=some x
 | y::r,i,k,x,h=>by
  unfold bV3 at h;rw [lookup_cons] at h;split at h
  ·rename_i e;obtain rfl:=Option.some.inj h;exact (aA0 (0) (rfl) (by refine rwg (eq_of_beq e ..) ?_;rfl))
  ·(refine aA3 (bR h) ?_;intro j eo0 e;subst eo0)
   exact (aA0 (j + 1) (by (clear e h;lia)) (e))
theorem bA4 {kindOf:Str→Option NameKind} {x:Str}:∀ (bs:List (Str × Value)) (m:Str→Option Value),x∉bs.map (·.1)→bindL kindOf bs m x=m x
 | [],m,_=>rfl
 | (n,v)::r,m,h=>by
  rw [map_cons,mem_cons,not_or] at h;refine rwg (bA4 r _ h.2 ..) ?_;split
  ·exact if_neg h.1
  ·rfl
theorem bA7 {kindOf:Str→Option NameKind} {x:Str}:∀ (bs:List (Str × Value)) (m:Str→Option Value),x∉bs.map (·.1)→bindC kindOf bs m x=m x
 | [],m,_=>rfl
 | (n,v)::r,m,h=>by
  rw [map_cons,mem_cons,not_or] at h;refine rwg (bA7 r _ h.2 ..) ?_;split
  ·rfl
  ·exact if_neg h.1
theorem bB7 {ps:List Str} {vs:List Value} (h:ps.length=vs.length):(ps.zip vs).map (·.1)=ps:=List.map_fst_zip (le_of_eq h)
set_option tactic.hygienic true in
theorem bQ0 {kindOf:Str→Option NameKind} {β:List Addr}:∀ {ps:List Str} {as:List AV} {vs:List Value} (m:Str→Option Value) {x:Str} {a:AV},ps.Nodup→AllIs β [] as vs→ps.length=as.length→(ps.zip as).lookup x=some a →
  (kindOf x=some .local→∃ v,bindL kindOf (ps.zip vs) m x=some v∧a.Is β [] v)∧(kindOf x≠some .local→∃ v,bindC kindOf (ps.zip vs) m x=some v∧a.Is β [] v):=by
 intro ps
 induction ps with
 | nil=>intro as vs m x a _ i hl h;cases h
 | cons p ps ih =>
  intro as vs m x a nd i hl h;cases i with
  | nil=>cases hl
  | @cons b v as vs ib i =>
   rw [nodup_cons] at nd;rw [List.zip_cons_cons,lookup_cons] at h;have hl':ps.length=as.length:=by simpa using hl
   have hnm:(ps.zip vs).map (·.1)=ps:=bB7 (by (refine rwg (hl' ..) ?_;refine rwg (i.length ..) ?_;rfl));split at h
   ·rename_i e;clear hl;obtain rfl:=eq_of_beq e;cases h
    refine ⟨fun hk=>(aA0 (v) (?_) (ib)),fun hk=>(aA0 (v) (?_) (ib))⟩
    ·refine (?_:bindL kindOf (ps.zip vs) (if kindOf x=some .local then _ else m) x=_);(refine rwg (if_pos hk ..) ?_;refine rwg (bA4 _ _ (by rw [hnm];exact nd.1) ..) ?_;refine rwg (if_pos rfl ..) ?_;rfl)
    ·refine (?_:bindC kindOf (ps.zip vs) (if kindOf x=some .local then m else _) x=_);(refine rwg (if_neg hk ..) ?_;refine rwg (bA7 _ _ (by rw [hnm];exact nd.1) ..) ?_;refine rwg (if_pos rfl ..) ?_;rfl)
   ·exact ⟨fun hk=>(ih _ nd.2 i hl' h).1 hk,fun hk=>(ih _ nd.2 i hl' h).2 hk⟩
set_option tactic.hygienic true in
theorem aL8 {f:Str × AV→Bool} {x:Str} {a:AV}:∀ {l:List (Str × AV)},(l.filter f).lookup x=some a→l.Nodup→(l.map (·.1)).Nodup→f (x,a)=true∧l.lookup x=some a
 | [],h,_,_=>by cases h
 | (y,b)::r,h,hd,nd=>by
  rw [map_cons,nodup_cons] at nd;rw [nodup_cons] at hd;rw [List.filter_cons] at h;refine rwg (lookup_cons ..) ?_;split at h
  ·rename_i hf;rw [lookup_cons] at h;split at h
   ·rename_i e;obtain rfl:=eq_of_beq e;clear hd nd;cases h
    exact ⟨hf,rfl⟩
   ·exact aL8 h hd.2 nd.2
  ·(refine aE8 (aL8 h hd.2 nd.2) ?_;intro h1 h2)
   refine ⟨h1,?_⟩;have hne:(x==y)=false:=by
    cases q:x==y with
    | false=>rfl
    | true =>
     obtain rfl:=eq_of_beq q;exact absurd (mem_map.mpr (aA0 ((x,a)) (aE0 h2) (rfl))) nd.1
   first | (refine rwg (hne ..) ?_;exact h2) | exact h2
theorem cK7 {cm:Str→Option Value} {cs:List (Str × Addr)} {cells:List (Addr × Obj)} (x:CellsAre cm cs cells):cells.map (·.1)=cs.map (·.2)∧∀ (n:Nat) (y:Str) (c:Addr) (o:Obj),cs[n]?=some (y,c)→cells[n]?=some (c,o)→o.data=.cell (cm y):=by
 induction x with
 | nil=>exact ⟨rfl,fun n y c o h=>by simp at h⟩
 | cons hd _ ih =>
  refine ⟨by (refine rwg (map_cons ..) ?_;refine rwg (map_cons ..) ?_;refine rwg (ih.1 ..) ?_;rfl),fun n y c o h1 h2=>?_⟩;cases n with
  | zero=>cases h1;cases h2;exact hd
  | succ n=>exact ih.2 n y c o h1 h2
section
variable {G:Gx} {prog:Program} {w:World} {A:Around} {V:Vw} {m:Str→Option Value} {σ:St} {ρ:List Addr} {s:Shared} {h:Heap}
theorem bX1 (H:GV G prog w A V) {hw nw:List (Addr × Obj)} {a:AV} {ao:AO} (F:Fr V.h₀ V.L h m) (N:News V.h₀ V.L h (hw++nw)) (P:Pcs V σ m hw nw) (e:aY9 G σ a=some ao) :
  ∃ l o,a.Is V.β (nw.map (·.1)) (.ref l)∧h.get? l=some o∧ao.Is V.β (nw.map (·.1)) o∧l∉hw.map (·.1):=by
 have old:∀ {l:Addr} {o:Obj},V.h₀.get? l=some o→l∉hw.map (·.1):=fun ho hm=>by
  (refine aA6 hm ?_;intro p hp eo0;clear hm;subst eo0)
  replace ho:=((N p (mem_append_left _ hp)).2.2)▸ho;cases ho
 cases a with
 | obj n =>
  have hlt:n < nw.length:=P.len▸(List.getElem?_eq_some_iff.mp e).1;have hn:nw[n]?=some nw[n]:=getElem?_eq_getElem hlt;refine ⟨nw[n].1,nw[n].2,(aA0 (nw[n].1) (by (refine rwg (getElem?_map ..) ?_;refine rwg (hn ..) ?_);rfl) (rfl)),(N _ (mem_append_right _ (getElem_mem hlt))).1,P.ob n ao _ _ e hn,fun hm=>?_⟩;have nd:=P.nd;rw [map_append,nodup_append] at nd;exact nd.2.2 _ hm _ (mem_map_of_mem (getElem_mem hlt)) rfl
 | par n =>
  (refine aD1 (H.g.base n ao e) ?_;intro b o h1 h2 i)
  exact ⟨b,o,(aA0 (b) (h1) (rfl)),F.keep _ _ h2,by simpa using i.more (nw.map (·.1)),old h2⟩
 | val u =>
  cases u with
  | ref b =>
   (refine aA3 (H.g.tab b ao e) ?_;intro o h2 i)
   exact ⟨b,o,rfl,F.keep _ _ h2,by simpa using i.more (nw.map (·.1)),old h2⟩
  | _=>cases e
 | _=>cases e
end
theorem cH7 {α β:Type} {P:α→β→Prop}:∀ {l:List α},(∀ p∈l,∃ b,P p b)→∃ ls:List β,ls.length=l.length∧∀ (j:Nat) (p:α),l[j]?=some p→∃ b,ls[j]?=some b∧P p b
 | [],_=>(aA0 ([]) (rfl) (fun j p h=>by simp at h))
 | a::l,h=>by
  (refine aJ9 (h a (.head _)) ?_;intro b hb)
  (refine aA3 (cH7 (l:=l) fun p hp=>h p (.tail _ hp)) ?_;intro ls h1 h2)
  refine (aA0 (b::ls) (by (refine rwg (length_cons ..) ?_;refine rwg (length_cons ..) ?_;refine rwg (h1 ..) ?_;rfl)) (fun j p e=>?_));cases j with
  | zero=>obtain rfl:=Option.some.inj e;exact (aA0 (b) (rfl) (hb))
  | succ j=>exact h2 j p e
theorem dC9 {β ρ:List Addr} {a:AV} {v:Value} {l:Addr} (h1:a.Is β ρ v) (h2:a.Is β ρ (.ref l)):v=.ref l:=by
 cases a with
 | none=>cases h2
 | bool=>cases h2
 | int=>(refine aJ9 h2 ?_;clear h2;intro _ e);cases e
 | str=>(refine aJ9 h2 ?_;clear h2;intro _ e);cases e
 | obj n=>(refine aA3 h1 ?_;clear h1;intro a e1 eo0;subst eo0);(refine aA3 h2 ?_;clear h2;intro b e2 e);cases e;replace e2:=(e1 ..)▸e2;clear e1;cases e2;rfl
 | par n=>(refine aA3 h1 ?_;clear h1;intro a e1 eo0;subst eo0);(refine aA3 h2 ?_;clear h2;intro b e2 e);cases e;replace e2:=(e1 ..)▸e2;clear e1;cases e2;rfl
 | val x=>exact h1.trans h2.symm
 | fz x=>exact h1.trans h2.symm
section
variable {pb:List (AV × AO)} {β β' ρ ρ':List Addr} {n0:Nat}
noncomputable def cV9 (pb:List (AV × AO)) (β ρ β':List Addr):Prop:=∀ (j:Nat) (p:AV × AO),pb[j]?=some p→∃ l,β'[j]?=some l∧p.1.Is β ρ (.ref l)
theorem up_is (H:cV9 pb β ρ β') {a a':AV} {v:Value} (e:up pb a'=some a) (i:a.Is β ρ v):a'.Is β' [] v:=by
 cases a' with
 | par j =>
  (refine aB9 e ?_;intro p hp eo0;clear e;subst eo0)
  (refine aA3 (H j p hp) ?_;intro l h1 h2)
  exact (aA0 (l) (h1) (dC9 i h2))
 | obj k=>cases e
 | _=>cases e;exact i
theorem bS9 (H:cV9 pb β ρ β'):∀ {as' as:List AV} {vs:List Value},as'.mapM (up pb)=some as→AllIs β ρ as vs→AllIs β' [] as' vs
 | [],as,vs,e,i=>by
  obtain rfl:[]=as:=by simpa using e
  cases i;exact .nil
 | a::l,as,vs,e,i=>by
  rw [mapM_cons] at e;(refine aA1 e ?_;intro x hx e)
  (refine aA1 e ?_;intro ys hy e)
  obtain rfl:x::ys=as:=Option.some.inj e;cases i with
  | cons i is=>exact .cons (up_is H hx i) (bS9 H hy is)
theorem upO_is (H:cV9 pb β ρ β') {a a':AO} {o:Obj} (e:upO pb a'=some a) (i:a.Is β ρ o):a'.Is β' [] o:=by
 cases a' with
 | list xs =>
  refine hide fun G_ k_=>?_;(refine aB9 e ?_;intro ys hy eo0;clear e;subst eo0)
  (refine aG9 i ?_;clear i;intro vs n e i)
  refine k_ ?_;exact ⟨vs,n,e,bS9 H hy i⟩
 | tup xs =>
  refine hide fun G_ k_=>?_;(refine aB9 e ?_;intro ys hy eo0;clear e;subst eo0)
  obtain ⟨c,vs,n,e,i⟩:=i;refine k_ ?_;exact ⟨c,vs,n,e,bS9 H hy i⟩
 | raw x=>cases e;exact i
 | rng a b c=>cases e;exact i
 | _=>cases e
theorem dn_is (H:cV9 pb β ρ β') {a a':AV} {v:Value} (e:dn pb ρ.length a'=some a) (i:a'.Is β' ρ' v):a.Is β (ρ++ρ') v:=by
 cases a' with
 | par j =>
  (refine aB9 e ?_;intro p hp eo0;clear e;subst eo0)
  (refine aA3 (H j p hp) ?_;intro l h1 h2)
  (refine aA3 i ?_;clear i;intro b h3 eo0;subst eo0)
  rw [h1] at h3;obtain rfl:=Option.some.inj h3
  exact h2.more ρ'
 | obj k =>
  obtain rfl:=Option.some.inj e;(refine aA3 i ?_;clear i;intro b h3 eo0;subst eo0)
  exact (aA0 (b) (by (refine rwg (getElem?_append_right (le_add_right _ _) ..) ?_;refine rwg (Nat.add_sub_cancel_left ..) ?_);exact h3) (rfl))
 | _=>obtain rfl:=Option.some.inj e;exact i
theorem bZ7 (H:cV9 pb β ρ β'):∀ {as' as:List AV} {vs:List Value},as'.mapM (dn pb ρ.length)=some as→AllIs β' ρ' as' vs→AllIs β (ρ++ρ') as vs
 | [],as,vs,e,i=>by
  obtain rfl:[]=as:=by simpa using e
  cases i;exact .nil
 | a::l,as,vs,e,i=>by
  rw [mapM_cons] at e;(refine aA1 e ?_;intro x hx e)
  (refine aA1 e ?_;intro ys hy e)
  obtain rfl:x::ys=as:=Option.some.inj e;cases i with
  | cons i is=>exact .cons (dn_is H hx i) (bZ7 H hy is)
theorem dnO_is (H:cV9 pb β ρ β') {a a':AO} {o:Obj} (e:dnO pb ρ.length a'=some a) (i:a'.Is β' ρ' o):a.Is β (ρ++ρ') o:=by
 cases a' with
 | list xs =>
  (refine aB9 e ?_;intro ys hy eo0;clear e;subst eo0)
  (refine aG9 i ?_;clear i;intro vs n e i)
  exact ⟨vs,n,e,bZ7 H hy i⟩
 | tup xs =>
  (refine aB9 e ?_;intro ys hy eo0;clear e;subst eo0)
  obtain ⟨c,vs,n,e,i⟩:=i;exact ⟨c,vs,n,e,bZ7 H hy i⟩
 | raw x=>cases e;exact i
 | rng a b c=>cases e;exact i
 | _=>cases e
end
set_option tactic.hygienic true in
theorem bN9 {K:Frag} {g:Value} {p:Addr × FuncData} (h:bC9 K g=some p):g=.ref p.1∧∃ o,K.lookup p.1=some o∧o.data=.func p.2:=by
 unfold bC9 at h;split at h
 ·(refine aA1 h ?_;intro o ho h)
  split at h
  ·rename_i hd;cases h
   exact ⟨rfl,o,ho,hd⟩
  ·cases h
 ·cases h
set_option tactic.hygienic true in
theorem bS1 {fd:FuncData} {b:List Stmt} (h:bW7 fd=some b):fd.body=.stmts b:=by
 unfold bW7 at h;split at h
 ·rename_i e;cases h;exact e
 ·cases h
structure FdOk (K:Frag) (fd:FuncData):Prop where
 gl:fd.globals=mainGlobals
 cl:fd.closure=[]
 bl:fd.builtins=builtinsNs
 kind:fd.scope.kind=.function
 gen:fd.scope.isGenerator=false
 co:fd.scope.isCoroutine=false
 code:codeIn K fd.code fd.qualname=true
 nd:(aR6 fd).Nodup
 names:∀ x∈aR6 fd,(fd.scope.names.lookup x==some .local || fd.scope.names.lookup x==some .cell)=true
 cnd:(aB8 fd.scope.names []).Nodup
 cell:∀ x∈aB8 fd.scope.names [],fd.scope.names.lookup x=some .cell
theorem cG9 {K:Frag} {fd:FuncData} (h:fdOk K fd=true):FdOk K fd:=by
 unfold fdOk at h;simp only [Bool.and_eq_true,Bool.not_eq_true',beq_iff_eq,all_eq_true] at h
 refine hide fun G_ k_=>?_;(refine aE8 h ?_;clear h;intro no0 h11;obtain ⟨⟨⟨⟨⟨⟨⟨⟨⟨h1,h2⟩,h3⟩,h4⟩,h5⟩,h6⟩,h7⟩,h8⟩,h9⟩,h10⟩:=no0)
 refine k_ ?_;exact ⟨h1,List.isEmpty_iff.mp h2,h3,h4,h5,h6,h7,aX h8,h9,aX h10,h11⟩
noncomputable def aZ1:List (Str × Addr)→Nat→List (Str × Nat × Addr)
 | [],_=>[]
 | (x,a)::r,i=>(x,i,a)::aZ1 r (i + 1)
theorem bI5:∀ {l:List (Str × Addr)} {i:Nat} {c:Str × Nat × Addr},c∈aZ1 l i→∃ j,c.2.1=i + j∧l[j]?=some (c.1,c.2.2)
 | (x,a)::r,i,c,h=>by
  rcases mem_cons.mp h with rfl | h
  ·exact (aA0 (0) (rfl) (rfl))
  ·(refine aA3 (bI5 h) ?_;intro j h1 h2)
   exact (aA0 (j + 1) (by (clear h2;lia)) (h2))
theorem bJ9:∀ {l:List (Str × Addr)} {i j:Nat} {x:Str} {a:Addr},l[j]?=some (x,a)→(x,i + j,a)∈aZ1 l i
 | (y,b)::r,i,j,x,a,h=>by
  cases j with
  | zero=>cases h;exact .head _
  | succ j=>have:=bJ9 (i:=i + 1) (show r[j]?=some (x,a) from h);rw [show i + 1 + j=i + (j + 1) by (clear h;lia)] at this;exact .tail _ this
theorem bK9:∀ {l:List (Str × Addr)} {j:Nat} {x:Str} {a:Addr},(l.map (·.1)).Nodup→l[j]?=some (x,a)→l.lookup x=some a
 | (y,b)::r,j,x,a,nd,h=>by
  rw [map_cons,nodup_cons] at nd;refine rwg (lookup_cons ..) ?_;cases j with
  | zero=>cases h;simp
  | succ j =>
   have h:r[j]?=some (x,a):=h;have hne:(x==y)=false:=by
    cases q:x==y with
    | false=>rfl
    | true =>
     obtain rfl:=eq_of_beq q;exact absurd (mem_map.mpr (aA0 ((x,a)) (mem_of_getElem? (l:=r) h) (rfl)):x∈r.map (·.1)) nd.1
   refine rwg (hne ..) ?_;exact bK9 nd.2 h
section
variable {U:Un} {prog:Program} {w:World} {XT:Heap→Prop} {A:Around} {V:Vw} {m:Str→Option Value} {σ:St} {s:Shared} {Q:Value→Shared→Prop} {E:Value→Shared→Prop} {K:AV→St→Prop} {base:List AO} {j n:Nat}
theorem bS (O:UOk U prog w XT j) (a:AOk (j + n) A) {h₀:Heap} {β:List Addr} (x:XT h₀) (b:aR1 base β h₀):GOk (gB base U.tab U.W) prog w A h₀ β :=
 gB_ok a.hh a.hu a.ar b (fun l ao e=>O.tab h₀ β x l ao e) O.fz O.frz
theorem aU4 {α β:Type} {f:α→β}:∀ {l:List α},(l.map f).Nodup→l.Nodup
 | [],_=>nodup_nil
 | a::l,h=>by
  rw [map_cons,nodup_cons] at h;exact nodup_cons.mpr ⟨fun hm=>h.1 (mem_map_of_mem hm),aU4 h.2⟩
noncomputable def bB4 (U:Un) (prog:Program) (w:World) (XT:Heap→Prop) (j n:Nat):Prop:=∀ (A:Around),AOk (j + n) A→∀ (base:List AO) (V:Vw) (m:Str→Option Value) (g:Value) (as:List AV) (σ:St) (K:AV→St→Prop) (vs:List Value) (ρ:List Addr) (s:Shared) (Q:Value→Shared→Prop) (E:Value→Shared→Prop),
 XT V.h₀→aR1 base V.β V.h₀→V.Over U.W→Rel V m ρ σ s.heap→AllIs V.β ρ as vs→aF4 U n base g as σ K→Res V m ρ s K Q→wpAny (model prog w) A (call g vs) Q E s
theorem cS5 (O:UOk U prog w XT j) (C:bB4 U prog w XT j n) (a:AOk (j + n) A) {h₀:Heap} {β:List Addr} (x:XT h₀) (b:aR1 base β h₀) (f:Addr) (cs:Scope) (ce:List (Str × Nat)):GOk (U.G0 (U.call n) f cs ce base) prog w A h₀ β where
 hh:=a.hh
 hu:=a.hu
 ar:=a.ar
 glob:=O.glob h₀ x A
 base:=b
 tab:=fun l ao e=>O.tab h₀ β x l ao e
 call:=fun V m g as σ K vs ρ s Q E e1 e2 ov R i h hQ=>by
  subst e1;subst e2
  replace h:cI8 U (aF4 U n) base g as σ K:=h;unfold cI8 at h;split at h
  ·rw [bE4] at h;exact C A a base V m _ as σ K vs ρ s Q E x b ov R i h hQ
  ·exact aT ⟨bS O a x b,ov⟩ R i h hQ
 fn:=fun g h=>O.fn h₀ g x h
 meth:=fun nm id h x t s pl Q E hq=>bX5 h x t s pl Q E hq
 vmeth:=fun V m σ l nm g ρ s pl Q E e1 ov R h hq=>by
  clear b;subst e1;exact O.vmeth A V m σ l nm g ρ s pl Q E (a.mono (le_add_right _ _)) x ov R h hq
 fz:=O.fz
 frz:=O.frz
theorem G_okU (O:UOk U prog w XT j) (C:bB4 U prog w XT j n) (a:AOk (j + n) A) {h₀:Heap} {β:List Addr} (x:XT h₀) (b:aR1 base β h₀) (f:Addr) (cs:Scope) (ce:List (Str × Nat)):GOk (U.G (U.call n) f cs ce base) prog w A h₀ β :=
 let g:=cS5 O C a x b f cs ce
 ⟨g.hh,g.hu,g.ar,g.glob,g.base,g.tab,g.call,g.fn,g.meth,g.vmeth,g.fz,g.frz⟩
theorem fn_ok (O:UOk U prog w XT j) (C:bB4 U prog w XT j n) (a:AOk (j + n) A) {f:Addr} {fd:FuncData} (hfd:bC9 U.K (.ref f)=some (f,fd)) (fo:FdOk U.K fd) {h₀:Heap} {L:Addr} {β:List Addr} {W:Wd→List (Addr × Obj)→Prop} (x:XT h₀) (b:aR1 base β h₀)
  (ov:(⟨h₀,L,β,W,fun m=>m,aZ1 (cellsFrom (L + 1) fd.scope.names []) 0⟩:Vw).Over U.W) :
  FOk (U.G (U.call n) f fd.scope (bV3 (aB8 fd.scope.names []) 0) base) prog w A ⟨h₀,L,β,W,fun m=>m,aZ1 (cellsFrom (L + 1) fd.scope.names []) 0⟩ (aK9 fd f L) ∧
  XOk (U.G (U.call n) f fd.scope (bV3 (aB8 fd.scope.names []) 0) base) prog w A ⟨h₀,L,β,W,fun m=>m,aZ1 (cellsFrom (L + 1) fd.scope.names []) 0⟩ (aK9 fd f L):=by
 have g0:=cS5 O C a x b f fd.scope (bV3 (aB8 fd.scope.names []) 0);have v0:VOk (U.G0 (U.call n) f fd.scope (bV3 (aB8 fd.scope.names []) 0) base) prog w A ⟨h₀,L,β,W,fun m=>m,aZ1 (cellsFrom (L + 1) fd.scope.names []) 0⟩ (aK9 fd f L):=by
  refine ⟨g0,ov,rfl,fo.kind,rfl,rfl,?_,?_,fun u_ u_ u_ u_ u_ u_ u_ u_ u_ u_ h=>h.elim⟩
  ·intro y v s m wd hw nw pos Q E hW F N hv hl hd hq;exact wpAny_Name (wpAny_loadName_local fo.kind hl F.ns hv hq) hd
  ·intro y k hk _;refine hide fun G_ k_=>?_;(refine aA3 (bR hk) ?_;intro j eo0 hj;clear hk;subst eo0)
   have e:=aD8 fd.scope.names (L + 1) [] [] rfl;(replace hj:=(Eq.symm (e ..))▸hj;replace hj:=(getElem?_map ..)▸hj)
   (refine aB9 hj ?_;intro no0 hc eo1;obtain ⟨y',c⟩:=no0;clear hj;subst eo1)
   refine k_ ?_;exact (aA0 (c) (by have:=bJ9 (i:=0) hc;exact this) (bK9 (l:=cellsFrom (L + 1) fd.scope.names []) (by refine rwg (e ..) ?_;exact fo.cnd) hc))
 have f0:FOk (U.G0 (U.call n) f fd.scope (bV3 (aB8 fd.scope.names []) 0) base) prog w A ⟨h₀,L,β,W,fun m=>m,aZ1 (cellsFrom (L + 1) fd.scope.names []) 0⟩ (aK9 fd f L):=⟨v0,rfl,fun u_ u_=>rfl⟩;refine ⟨⟨⟨G_okU O C a x b f _ _,ov,rfl,fo.kind,rfl,rfl,v0.loc,v0.cell,?_⟩,rfl,fun u_ u_=>rfl⟩,?_⟩
 ·intro hx e m σ K ρ s Q E R h hQ;exact O.exe f fd hfd A _ _ e m σ K ρ s Q E (a.mono (le_add_right _ _)) x (f0.plus hx) rfl R h hQ
 ·intro hx st m σ K ρ s Q E R h hQ;exact O.exo f fd hfd A _ _ st m σ K ρ s Q E (a.mono (le_add_right _ _)) x (f0.plus hx) (fun u_ u_ u_ u_ u_ u_ u_ u_ u_ u_ h=>h.elim) rfl R h hQ
theorem bQ7 (O:UOk U prog w XT j) (C:bB4 U prog w XT j n) (a:AOk (j + n + 1) A) {f:Addr} {fd:FuncData} {body:List Stmt} (hfd:bC9 U.K (.ref f)=some (f,fd)) (fo:FdOk U.K fd) (hb:cG6 fd) (hbody:fd.body=.stmts body) {h0':Heap} {β':List Addr} {WW:Wd→List (Addr × Obj)→Prop} {b0:List AO} {as':List AV} {vs:List Value} {wd:Wd} {hw:List (Addr × Obj)} {K':Fl→St→Prop}
  (x':XT h0') (b':aR1 b0 β' h0') (ov:(⟨h0',s.heap.objs.size,β',WW,fun m=>m,[]⟩:Vw).Over U.W) (dn0:∀ b o,h0'.get? b=some o→s.heap.get? b=some o) (sz0:h0'.objs.size=s.heap.objs.size) (hwg:∀ p∈hw,s.heap.get? p.1=some p.2) (hid:∀ p∈hw,h0'.get? p.1=none) (ndw:(hw.map (·.1)).Nodup) (hW:WW wd hw)
  (i':AllIs β' [] as' vs) (hlen':(aR6 fd).length=as'.length) (hvs:vs.length=(aR6 fd).length) (hex:ex (U.G (U.call n) f fd.scope (bV3 (aB8 fd.scope.names []) 0) b0) 60 body ⟨aT7 fd.scope ((aR6 fd).zip as'),aL4 (aB8 fd.scope.names []) ((aR6 fd).zip as'),wd⟩ K')
  (fin:∀ (fl:Fl) (σ':St) (fv:Flow) (m2:Str→Option Value) (r:List Addr) (h2:Heap) (tk2:Nat) (g2:GB s.gens) (cl:List (Str × Nat × Addr)),Rel ⟨h0',s.heap.objs.size,β',WW,fun m=>m,cl⟩ m2 r σ' h2→FlIs β' r fl fv→K' fl σ'→Q (match fv with | .ret v=>v | _=>.none) ⟨h2,g2.1,s.drawn,tk2,s.os⟩):wpAny (model prog w) A (call (.ref f) vs) Q E s:=by
 obtain ⟨_,of,hof,hod⟩:=bN9 hfd;have hfh:=dn0 _ _ (O.inn _ x' _ _ hof);refine wpAny_call (codeAny_call_function (by have:=a.d;refine (?_:A.depth < 1000);(clear hfd hbody sz0 hlen' hvs hof hod hfh;lia)) hfh hod fo.co fo.gen hbody (codeRec_of ((O.inn _ x').keeps dn0) fo.code) ?_);rw [hb vs hvs];refine wpAny_pure ?_;rw [fo.gl,fo.cl,fo.bl];refine wpAny_newFunctionEnv_cells fo.kind (kindsX (all_eq_true.mpr fun p hp=>fo.names _ (by rw [← bB7 (ps:=aR6 fd) (vs:=vs) hvs.symm];exact mem_map_of_mem hp)) _) fun env' he s' z=>?_;subst he;refine ⟨((O.nolim _ x').keeps dn0).keeps z.toInCall.keep,codeAny_func ?_⟩;obtain ⟨h1,tk,rfl,_⟩:=z.done;have hk1:=z.toInCall.keep;have hns:=z.toInCall.ns;obtain ⟨cells,NC,Y⟩:=Cl.news (h₀:=h0') (h:=h1) (L:=s.heap.objs.size) (le_of_eq sz0) fun nm c hm=>⟨z.cell nm c (lookup_of_mem_nodup (by
  refine (?_:((cellsFrom (s.heap.objs.size + 1) fd.scope.names []).map (·.1)).Nodup);rw [aD8 fd.scope.names _ [] [] rfl];exact fo.cnd) hm),z.above nm c hm⟩
 generalize hkO:(newEnv fd.scope s.heap.objs.size mainGlobals (cellsFrom (s.heap.objs.size + 1) fd.scope.names []) (fd.qualname++".<locals>.") (some f) fd.code none builtinsNs).kindOf=kO at hns Y;have hkO':∀ x,kO x=fd.scope.names.lookup x:=fun x=>by rw [← hkO];rfl
 have F1:Fr h0' s.heap.objs.size h1 (bindL kO ((aR6 fd).zip vs) fun u_=>none):=⟨hns,fun b o e=>hk1 b o (dn0 b o e),le_of_eq sz0⟩;replace Y:CellsAre (bindC kO ((aR6 fd).zip vs) fun u_=>none) (cellsFrom (s.heap.objs.size + 1) fd.scope.names []) cells:=Y;(refine aE8 (cK7 Y) ?_;intro Y1 Y2)
 have hwlt:∀ p∈hw,(@LT.lt Nat _ p.1 s.heap.objs.size):=fun p hp=>Heap.lt_size (hwg p hp);have N1:News h0' s.heap.objs.size h1 (hw++cells):=fun p hp=>by
  rcases mem_append.mp hp with hp | hp
  ·exact ⟨hk1 _ _ (hwg p hp),ne_of_lt (hwlt p hp),hid p hp⟩
  ·exact NC p hp
 have cs_nd:((cellsFrom (s.heap.objs.size + 1) fd.scope.names []).map (·.1)).Nodup:=by rw [aD8 fd.scope.names _ [] [] rfl];exact fo.cnd
 have ov':(⟨h0',s.heap.objs.size,β',WW,fun m=>m,aZ1 (cellsFrom (s.heap.objs.size + 1) fd.scope.names []) 0⟩:Vw).Over U.W:=ov;(refine aE8 (fn_ok O C (a.deeper (aK9 fd f s.heap.objs.size)) hfd fo x' b' ov') ?_;intro FO XO)
 have clen:(cellsFrom (s.heap.objs.size + 1) fd.scope.names []).length=cells.length:=by
  have:=congrArg List.length Y1;(replace this:=(length_map ..)▸this;replace this:=(length_map ..)▸this)
  exact this.symm
 have R1:Rel ⟨h0',s.heap.objs.size,β',WW,fun m=>m,aZ1 (cellsFrom (s.heap.objs.size + 1) fd.scope.names []) 0⟩ (bindL kO ((aR6 fd).zip vs) fun u_=>none) (cells.map (·.1)) ⟨aT7 fd.scope ((aR6 fd).zip as'),aL4 (aB8 fd.scope.names []) ((aR6 fd).zip as'),wd⟩ h1:=by
  refine ⟨hw,cells,rfl,F1,N1,hW,?_,?_,?_,?_,?_⟩
  ·rw [map_append,nodup_append,Y1];refine ⟨ndw,List.nodup_iff_pairwise_ne.mpr (List.pairwise_map.mpr z.apart),fun c hc d hd q=>?_⟩;subst q;(refine aA6 hc ?_;intro p hp eo0;clear hc;subst eo0)
   (refine aA6 hd ?_;intro no0 hd q;obtain ⟨y,d⟩:=no0)
   have h1:=z.above y d hd;have h2:=hwlt p hp;have q:d=p.1:=q;replace h1:=(q ..)▸h1;exact absurd h2 (Nat.lt_asymm h1)
  ·refine (?_:(aL4 _ _).length=_);(refine rwg (length_map ..) ?_;refine rwb (clen ..) ?_;refine rwb (aD8 fd.scope.names (s.heap.objs.size + 1) [] [] rfl ..) ?_;refine rwg (length_map ..) ?_;rfl)
  ·intro j ao c o e1 e2;have e1:(aL4 (aB8 fd.scope.names []) ((aR6 fd).zip as'))[j]?=some ao:=e1;unfold aL4 at e1;(replace e1:=(getElem?_map ..)▸e1;replace e1:=(Eq.symm (aD8 fd.scope.names (s.heap.objs.size + 1) [] [] rfl ..))▸e1;replace e1:=(getElem?_map ..)▸e1)
   (refine aB9 e1 ?_;intro y hy eo0;clear e1;subst eo0)
   (refine aB9 hy ?_;intro no0 hc eo1;obtain ⟨y',c'⟩:=no0;clear hy e1;subst eo1)
   have e3:(cells.map (·.1))[j]?=some c:=by (refine rwg (getElem?_map ..) ?_;refine rwg (e2 ..) ?_);rfl
   (replace e3:=(Y1 ..)▸e3;replace e3:=(getElem?_map ..)▸e3;replace e3:=(hc ..)▸e3)
   cases e3
   have hd:=Y2 j y' _ o hc e2;refine (aA0 (_) (hd) (fun a' e=>?_));have hk:kO y'≠some .local:=fun q=>by
    have hm:y'∈aB8 fd.scope.names []:=by
     refine rwb (aD8 fd.scope.names (s.heap.objs.size + 1) [] [] rfl ..) ?_;exact mem_map.mpr (aA0 (_) (mem_of_getElem? hc) (rfl))
    (replace q:=(hkO' ..)▸q;replace q:=(fo.cell _ hm ..)▸q);cases q
   (refine aA3 ((bQ0 (kindOf:=kO) (fun u_=>none) fo.nd i' hlen' e).2 hk) ?_;intro v hv iv)
   exact (aA0 (v) (hv) (by simpa using iv.more (cells.map (·.1))))
  ·intro y a' e;have e:(aT7 fd.scope ((aR6 fd).zip as')).lookup y=some a':=e;unfold aT7 at e;have hnm:((aR6 fd).zip as').map (·.1)=aR6 fd:=List.map_fst_zip (le_of_eq hlen');(refine aE8 (aL8 e (aU4 (by refine rwg (hnm ..) ?_;exact fo.nd)) (by refine rwg (hnm ..) ?_;exact fo.nd)) ?_;intro hf hl)
   have hk:kO y=some .local:=(hkO' y).trans (eq_of_beq hf);(refine aA3 ((bQ0 (kindOf:=kO) (fun u_=>none) fo.nd i' hlen' hl).1 hk) ?_;intro v hv iv)
   exact (aA0 (v) (hv) (by simpa using iv.more (cells.map (·.1))))
  ·intro c hc;(refine aA3 (bI5 hc) ?_;intro j h2 h3)
   (refine rwg (h2 ..) ?_;refine rwg (zero_add ..) ?_;refine rwg (Y1 ..) ?_;refine rwg (getElem?_map ..) ?_;refine rwg (h3 ..) ?_);rfl
 have run:=bW5 FO XO 60 [];replace run:=(Vw.plus_nil ..)▸run;refine wpAny_mono (run body _ _ _ _ ⟨h1,s.gens,s.drawn,tk,s.os⟩ (fun fl s'=>Q (match fl with | .ret v=>v | _=>.none) s') (fun u_ u_=>False) R1 hex fun fl σ' fv m2 r h2 tk2 g2 R2 i2 k2=>fin fl σ' fv m2 _ h2 tk2 g2 _ R2 i2 k2) (fun u_ u_ x=>x) (fun u_ u_ x=>x.elim)
set_option tactic.hygienic true in
theorem cM5 (O:UOk U prog w XT j) (C:bB4 U prog w XT j n) (a:AOk (j + n + 1) A) {f:Addr} {fd:FuncData} (hfd:bC9 U.K (.ref f)=some (f,fd)) {as:List AV} {vs:List Value} {ρ:List Addr} (x:XT V.h₀) (b:aR1 base V.β V.h₀) (ov:V.Over U.W)
  (R:Rel V m ρ σ s.heap) (i:AllIs V.β ρ as vs) (h:cX1 U (U.call n) (gB base U.tab U.W) f fd as σ K) (hQ:Res V m ρ s K Q):wpAny (model prog w) A (call (.ref f) vs) Q E s:=by
 refine hide fun G_ k_=>?_;obtain ⟨⟨hok,hb,hlen⟩,h1⟩:=h;obtain ⟨body,hbody,pb,as',⟨hup,hpb⟩,hex⟩:=aH1 h1;clear h1;have fo:=cG9 hok;have hbody:=bS1 hbody;have gb:GV (gB base U.tab U.W) prog w A V:=⟨bS (n:=n + 1) O a x b,ov⟩;obtain ⟨hw,nw,rfl,F,N,P⟩:=R.pcs;refine k_ ?_;have nd:=P.nd;rw [map_append,nodup_append] at nd;refine hide fun G_ k_=>?_;obtain ⟨β',hβl,hβ⟩:=cH7 (l:=pb) (P:=fun p l=>p.1.Is V.β (nw.map (·.1)) (.ref l)∧∃ o,s.heap.get? l=some o∧l∉hw.map (·.1)∧∃ ao,upO pb p.2=some ao∧ao.Is V.β (nw.map (·.1)) o) fun p hp=>by
  obtain ⟨ao,e1,e2⟩:=hpb p hp;obtain ⟨l,o,h1,h2,h3,h4⟩:=bX1 gb F N P e1;exact ⟨l,h1,o,h2,h4,ao,e2,h3⟩
 refine k_ ?_;have pbat:cV9 pb V.β (nw.map (·.1)) β':=fun j p hj=>by
  refine hide fun G_ k_=>?_;(refine aI8 (hβ j p hj) ?_;intro l h1 h2 _)
  refine k_ ?_;exact (aA0 (l) (h1) (h2))
 generalize hh0:hideAll s.heap (hw.map (·.1))=h0';have up0:∀ b o,s.heap.get? b=some o→b∉hw.map (·.1)→h0'.get? b=some o:=fun b o e q=>hh0▸hideAll_get _ e q;have dn0:∀ b o,h0'.get? b=some o→s.heap.get? b=some o:=fun b o e=>of_hideAll (hw.map (·.1)) (hh0▸e);have hid:∀ p∈hw,h0'.get? p.1=none:=fun p hp=>hh0▸hideAll_none _ (mem_map_of_mem hp);have sz0:h0'.objs.size=s.heap.objs.size:=by rw [← hh0];exact hideAll_size _ _
 have old:∀ b o,V.h₀.get? b=some o→h0'.get? b=some o:=fun b o e=>up0 b o (F.keep b o e) fun q=>by
  (refine aA6 q ?_;intro p hp eo0;clear q;subst eo0)
  rw [(N p (mem_append_left _ hp)).2.2] at e;cases e
 have x':XT h0':=O.keeps _ _ x old;have b':aR1 (pb.map (·.2)) β' h0':=fun j ao e=>by
  replace e:=(getElem?_map ..)▸e;refine hide fun G_ k_=>?_;(refine aB9 e ?_;intro p hp eo0;clear e;subst eo0)
  obtain ⟨l,h1,h2,o,h3,h4,ao,h5,h6⟩:=hβ j p hp;refine k_ ?_;exact ⟨l,o,h1,up0 _ _ h3 h4,upO_is pbat h5 h6⟩
 have i':AllIs β' [] as' vs:=bS9 pbat hup i;have hlen':(aR6 fd).length=as'.length:=by rw [i'.length,← hlen,i.length]
 have hvs:vs.length=(aR6 fd).length:=by rw [← i.length,hlen]
 refine bQ7 O C a hfd fo hb hbody x' b' ov dn0 sz0 (fun p hp=>(N p (mem_append_left _ hp)).1) hid nd.1 P.hW i' hlen' hvs hex fun fl σ' fv m2 r h2 tk2 g2 cl2 R2 i2 k2=>?_;refine hide fun G_ k_=>?_;(refine R2.el ?_;intro hw2 nw2 e2 F2 N2 P2)
 refine k_ ?_;have keep2:∀ b o,s.heap.get? b=some o→b∉hw.map (·.1)→h2.get? b=some o:=fun b o e q=>F2.keep b o (up0 b o e q);have hLw:V.L∉hw.map (·.1):=fun q=>by
  refine hide fun G_ k_=>?_;(refine aA6 q ?_;intro p hp q)
  refine k_ ?_;exact (N p (mem_append_left _ hp)).2.1 q
 have F3:Fr V.h₀ V.L h2 m:=⟨F.ns.at' fun o e=>keep2 _ o e hLw,fun b o e=>F2.keep b o (old b o e),F.above⟩;have nwn:∀ p∈nw,p.1∉hw.map (·.1):=fun p hp q=>nd.2.2 _ q _ (mem_map_of_mem hp) rfl;have fr:∀ b:Addr,h0'.get? b=none→b≠V.L∧V.h₀.get? b=none∧b∉nw.map (·.1):=fun b e=>by
  refine hide fun G_ k_=>?_;(refine aP4 (F.ns) ?_;intro oL _ _ hL _)
  refine k_ ?_;refine ⟨fun q=>?_,?_,fun q=>?_⟩
  ·(replace e:=(q ..)▸e;replace e:=(up0 _ _ hL hLw ..)▸e);cases e
  ·cases q:V.h₀.get? b with
   | none=>rfl
   | some o=>replace e:=(old b o q ..)▸e;cases e
  ·(refine aA6 q ?_;intro p hp eo0;clear k_ q;subst eo0)
   replace e:=(up0 _ _ (N p (mem_append_right _ hp)).1 (nwn p hp) ..)▸e;cases e
 have fin:∀ (hw3 nw3:List (Addr × Obj)) (os:List AO) (a:AV) (v:Value),V.W σ'.wd hw3→News h0' s.heap.objs.size h2 (hw3++nw3)→((hw3++nw3).map (·.1)).Nodup→os.length=nw3.length →
   (∀ (j:Nat) (ao:AO) (c:Addr) (o:Obj),os[j]?=some ao→nw3[j]?=some (c,o)→ao.Is V.β (nw.map (·.1)++nw3.map (·.1)) o)→a.Is V.β (nw.map (·.1)++nw3.map (·.1)) v→K a ⟨σ.loc,σ.obj++os,σ'.wd⟩→Q v ⟨h2,g2.1,s.drawn,tk2,s.os⟩:=by
  intro hw3 nw3 os a v hW3 N3 nd3 hl3 ob3 iv hK;rw [map_append,nodup_append] at nd3;refine hQ a ⟨σ.loc,σ.obj++os,σ'.wd⟩ v (nw3.map (·.1)) h2 tk2 g2 ⟨hw3,nw++nw3,map_append.symm,F3,fun p hp=>?_,hW3,?_,?_,?_,?_,?_⟩ iv hK
  ·rcases mem_append.mp hp with hp | hp
   ·have q:=N3 p (mem_append_left _ hp);exact ⟨q.1,(fr _ q.2.2).1,(fr _ q.2.2).2.1⟩
   ·rcases mem_append.mp hp with hp | hp
    ·have q:=N p (mem_append_right _ hp);exact ⟨keep2 _ _ q.1 (nwn p hp),q.2⟩
    ·have q:=N3 p (mem_append_right _ hp);exact ⟨q.1,(fr _ q.2.2).1,(fr _ q.2.2).2.1⟩
  ·rw [map_append,map_append,nodup_append,nodup_append];refine ⟨nd3.1,⟨nd.2.1,nd3.2.1,fun c hc d hd q=>?_⟩,fun c hc d hd q=>?_⟩
   ·refine hide fun G_ k_=>?_;subst q;(refine aA6 hd ?_;intro p hp eo0;clear hd;subst eo0)
    refine k_ ?_;exact (fr _ (N3 p (mem_append_right _ hp)).2.2).2.2 hc
   ·subst q;rcases mem_append.mp hd with hd | hd
    ·refine hide fun G_ k_=>?_;(refine aA6 hc ?_;intro p hp eo0;clear hc;subst eo0)
     refine k_ ?_;exact (fr _ (N3 p (mem_append_left _ hp)).2.2).2.2 hd
    ·exact nd3.2.2 _ hc _ hd rfl
  ·refine (?_:(σ.obj++os).length=_);(refine rwg (List.length_append ..) ?_;refine rwg (List.length_append ..) ?_;refine rwg (P.len ..) ?_;refine rwg (hl3 ..) ?_;rfl)
  ·intro j ao c o q1 q2;have q1:(σ.obj++os)[j]?=some ao:=q1;refine rwg (map_append ..) ?_;by_cases hj:j < σ.obj.length
   ·replace q1:=(getElem?_append_left hj ..)▸q1;replace q2:=(getElem?_append_left (P.len▸hj) ..)▸q2;exact (P.ob j ao c o q1 q2).more _
   ·replace q1:=(getElem?_append_right (Nat.not_lt.mp hj) ..)▸q1;(replace q2:=(getElem?_append_right (P.len▸Nat.not_lt.mp hj) ..)▸q2;replace q2:=(Eq.symm (P.len ..))▸q2)
    exact ob3 _ ao c o q1 q2
  ·intro y a' q;refine hide fun G_ k_=>?_;(refine aA3 (P.lo y a' q) ?_;intro v hv i)
   refine k_ ?_;exact (aA0 (v) (hv) (by refine rwg (map_append ..) ?_;exact i.more _))
  ·intro c hc;(refine rwg (map_append ..) ?_;refine rwg (getElem?_append_left (List.getElem?_eq_some_iff.mp (P.ce c hc)).1 ..) ?_)
   exact P.ce c hc
 clear k_;cases i2 with
 | next =>
  have nd2:=P2.nd;rw [map_append,nodup_append] at nd2;exact fin hw2 [] [] .none .none P2.hW (fun p hp=>N2 p (by replace hp:=(append_nil ..)▸hp;exact mem_append_left _ hp)) (by refine rwg (append_nil ..) ?_;exact nd2.1) rfl (fun j ao c o q=>by simp at q) rfl (by refine rwg (append_nil ..) ?_;exact k2)
 | brk=>exact k2.elim
 | cont=>exact k2.elim
 | ret hv =>
  refine hide fun G_ k_=>?_;(refine bG7 k2 ?_;clear k2;intro sel σ2 a' a2 os hsel hren hra hda hos hK)
  replace hsel:=(Bool.and_eq_true ..)▸hsel;have R3:Rel ⟨h0',s.heap.objs.size,β',V.W,fun m=>m,[]⟩ m2 r ⟨[],σ'.obj,σ'.wd⟩ h2:=⟨hw2,nw2,e2,F2,N2,P2.hW,P2.nd,P2.len,P2.ob,fun y b q=>(nomatch q),fun c hc=>(nomatch hc)⟩;have hl:=R3.len.1;have R4:=R3.ren (n0:=0) (sel:=sel) (by refine rwb (hl ..) ?_;exact hsel.1) (aR3 hsel.2) (fun c hc=>(nomatch hc)) hren;have iv:=aX0 (n0:=0) (sel:=sel) (by refine rwb (hl ..) ?_;exact hsel.1) hra hv;(refine R4.el ?_;intro hw4 nw4 e4 F4 N4 P4)
  replace iv:=(e4 ..)▸iv;have hwd:σ2.wd=σ'.wd:=by
   (refine aA1 hren ?_;intro loc _ q)
   (refine aB9 q ?_;intro obj _ eo0;clear hren hos R4 P4 q;subst eo0)
   rfl
  have hln:σ.obj.length=(nw.map (·.1)).length:=by (refine rwg (P.len ..) ?_;refine rwg (length_map ..) ?_;rfl)
  (refine aE8 (bD3 hos) ?_;intro l1 l2)
  refine k_ ?_;rw [hln] at l2 hda;refine fin hw4 nw4 os a2 _ (hwd▸P4.hW) N4 P4.nd (by (refine rwg (l1 ..) ?_;refine rwg (P4.len ..) ?_;rfl)) (fun j ao c o q1 q2=>?_) (dn_is pbat hda iv) hK;refine hide fun G_ k_=>?_;(refine aA3 (l2 j ao q1) ?_;intro ao' q3 q4)
  refine k_ ?_;exact dnO_is pbat q4 (P4.ob j ao' c o q3 q2)
theorem bD2 (O:UOk U prog w XT j):∀ n,bB4 U prog w XT j n
 | 0=>fun A a base V m g as σ K vs ρ s Q E x b ov R i h hQ=>by
  rw [bU8] at h;refine aH6 h (fun u_ h=>?_) (fun u_ h=>?_)
  ·exact O.prim A base V m g as σ K vs ρ s Q E a x b ov R i (by assumption) h hQ
  ·exact aT ⟨bS O a x b,ov⟩ R i h hQ
 | n + 1=>fun A a base V m g as σ K vs ρ s Q E x b ov R i h hQ=>by
  have C:=bD2 O n;rw [bA2] at h;refine aH6 h (fun u_ h=>?_) (fun u_ h=>?_)
  ·exact O.prim A base V m g as σ K vs ρ s Q E (a.mono (le_add_right _ _)) x b ov R i (by assumption) h hQ
  refine aB7 h (fun p hp h'=>?_) (fun u_ h'=>?_)
  ·(refine aE8 (bN9 hp) ?_;intro eo0 _;subst eo0)
   exact cM5 O C a hp x b ov R i h' hQ
  ·exact aT ⟨bS O a x b,ov⟩ R i h' hQ
end
example:PySem.Challenge.rw_in0180_01=PySem.Challenge.rw_in0180_01∧Mine.hd.heap_39=Mine.hd.heap_39:=by k_fill;exact ⟨rfl,rfl⟩
noncomputable def bM2 (n:Int):Str:=if n=10 then "l" else if n=12 then "s" else if n=8 then "-" else if n=6 then "b" else if n=4 then "d" else if n=2 then "c" else if n=1 then "p" else "?"
noncomputable def sgE (_:Params):Option (Scope × Expr):=(fnD (stM 35)).2.2.1.head?.bind fun st=>if h:st.ctorIdx=5 then some ((fnD (stM 35)).2.2.2,Stmt.Assign.elim st h fun u_ e u_=>e) else none
theorem cD1 {h₀ h:Heap} {L:Addr} {m:Str→Option Value} {x:Str} {v:Value} (F:Fr h₀ L h (fun y=>if y=x then some v else m y)) (e:m x=some v):Fr h₀ L h m:=by
 have:(fun y=>if y=x then some v else m y)=m:=by
  funext y
  by_cases hy:y=x
  ·(refine rwg (if_pos hy ..) ?_;refine rwg (hy ..) ?_;refine rwg (e ..) ?_;rfl)
  ·(refine rwg (if_neg hy ..) ?_;rfl)
 refine rwb (this ..) ?_;exact F
theorem dA {prog:Program} {w:World} {p:Program} {loose:List Str} {mean:ExcName→Option Value} {mg mb:Str→Option Value} {outer:List Env} {h₀:Heap} {s:Shared} {m:Str→Option Value} {nw:List (Addr × Obj)} {L:Addr} {b:Int} {tb:Tok} {sc:Scope} {e:Expr} {Q:Value→Shared→Prop} {E:Value→Shared→Prop}
 (X:(Mine.hd.heap_39 w.params).In h₀) (T:Top p loose mean mg mb h₀) (F:Fr h₀ L s.heap m) (N:News h₀ L s.heap nw) (hrec:sgE w.params=some (sc,e)) (hb:m (ofString "bits")=some (.int b tb))
 (hQ:∀ h' tk' t',Fr h₀ L h' m→News h₀ L h' nw→Q (.str (bM2 (b.fdiv 4096)) t') ⟨h',s.gens,s.drawn,tk',s.os⟩) :
 wpAny (model prog w) (cA 600 2000 outer) (eval e (envOf (ofString "_law_signs") sc L 163 (.ref 162))) Q E s:=by
 conv at hrec=>lhs;whnf
 cases hrec
 have F1:=cT6 F hb
 repeat' (first | (k_unfold;(try dsimp only)) | (walk1;try dsimp only) | (dsimp only;walk1) | (leave1;walk_say "STEP leave1";try dsimp only))
 all_goals
  with_reducible rename Fr _ _ _ _=>F2
  with_reducible rename News _ _ _ _=>N2
  refine cast (congrArg (fun x=>Q (.str x _) _) ?_) (hQ _ _ _ (cD1 F2 hb) fun p hp=>N2 p (.tail _ hp));simp only [bM2, *,if_true,if_false]
  try decide
noncomputable abbrev wsS:Str:=ofString "\n\t\r "
noncomputable abbrev dqS:Str:=ofString "\""
noncomputable abbrev bsS:Str:=ofString "\\"
noncomputable def aI3:List Str→Str→Str × List Str
 | [],acc=>(acc,[])
 | [c],acc=>if (c==dqS)=true then (acc,[]) else if (c==bsS)=true then (acc++ofString "",[]) else (acc++c,[])
 | c::d::r,acc=>if (c==dqS)=true then (acc,d::r) else if (c==bsS)=true then aI3 r (acc++d) else aI3 (d::r) (acc++c)
noncomputable def aG:List Str→Str→Str × List Str
 | [],acc=>(acc,[])
 | [c],acc=>if Txt.contains wsS c=true then (acc,[]) else if (c==bsS)=true then (acc++ofString "",[]) else (acc++c,[])
 | c::d::r,acc=>if Txt.contains wsS c=true then (acc,d::r) else if (c==bsS)=true then aG r (acc++d) else aG (d::r) (acc++c)
noncomputable def aA9:List Str→Str × List Str
 | []=>(ofString "",[])
 | c::r=>if Txt.contains wsS c=true then aA9 r else if (c==dqS)=true then aI3 r (ofString "") else if (c==bsS)=true then aG r.tail (ofString ""++r.headD (ofString "")) else aG r (ofString ""++c)
theorem bK0 {c:Str} {r:List Str} {acc:Str} (h:(c==dqS)=true):aI3 (c::r) acc=(acc,r):=by cases r<;>simp [aI3,h]
theorem bK1 {c:Str} {r:List Str} {acc:Str} (h:(c==dqS)=false) (h2:(c==bsS)=true):aI3 (c::r) acc=aI3 r.tail (acc++r.headD (ofString "")):=by cases r<;>simp [aI3,h,h2]
theorem aU0 {c:Str} {r:List Str} {acc:Str} (h:(c==dqS)=false) (h2:(c==bsS)=false):aI3 (c::r) acc=aI3 r (acc++c):=by cases r<;>simp [aI3,h,h2]
theorem bI3 {c:Str} {r:List Str} {acc:Str} (h:Txt.contains wsS c=true):aG (c::r) acc=(acc,r):=by cases r<;>simp [aG,h]
theorem bJ0 {c:Str} {r:List Str} {acc:Str} (h:Txt.contains wsS c=false) (h2:(c==bsS)=true):aG (c::r) acc=aG r.tail (acc++r.headD (ofString "")):=by cases r<;>simp [aG,h,h2]
theorem aU1 {c:Str} {r:List Str} {acc:Str} (h:Txt.contains wsS c=false) (h2:(c==bsS)=false):aG (c::r) acc=aG r (acc++c):=by cases r<;>simp [aG,h,h2]
theorem bE5 {r:List Str} (h:∀ y∈r,y.length=1):(r.headD (ofString "")).length≤1∧(r.headD (ofString "")).length + r.tail.length≤r.length:=by
 cases r with
 | nil=>(refine rwg (show ([]:List Str).headD (ofString "")=ofString "" from rfl) ?_;refine rwg (show (ofString "").length=0 by decide +kernel) ?_);simp
 | cons y r =>
  have:=h y (.head _);refine (?_:y.length≤1∧y.length + r.length≤r.length + 1);lia
section
open PySem.W.X PySem.Builtin PySem.Builtin.ObjectAttr
theorem store_function:StoreFacts "function" [.type "function",.type "object"] "object.__setattr__" "object" where
 mro:=by kernel_rfl
 slot:=.of (owner:="object") (n:="__setattr__") (by rw [typeLookup_type,builtinLookup_eq_fast];kernel_rfl) (by decide +kernel) (by decide +kernel) (by decide +kernel)
  (by first | exact .inl (by decide +kernel) | exact .inr (by decide +kernel)) (by rw [isSubtype_type];kernel_rfl)
 entry:=F.entry_object_sa
 kind:=by decide +kernel
 split:=by decide +kernel
 hasOwner:=by decide +kernel
 args:=fun a b c=>by kernel_rfl
 passes:=fun self=>by kernel_rfl
theorem bI7:typeLookup (.type "function") (ofString "read")=pure none:=by rw [typeLookup_type,builtinLookup_eq_fast];kernel_rfl
noncomputable def aZ2 (oD:Obj) (v:Value):Prop:=∀ (h:Heap) (d:Addr),h.get? d=some oD→h.Ns d (fun y=>if y=ofString "read" then some v else none)
theorem cP7 {prog:Program} {w:World} {A:Around} {E:Value→Shared→Prop} {s:Shared} {f0:Addr} {fd:FuncData} {v:Value} {Q:Unit→Shared→Prop}
 (hf:s.heap.get? f0=some ⟨.type "function",none,.func fd,#[]⟩)
 (hQ:∀ d oD h' tk',d=s.heap.objs.size→h'.get? d=some oD→aZ2 oD v→h'.get? f0=some ⟨.type "function",some d,.func fd,#[]⟩→(∀ b o,b≠f0→s.heap.get? b=some o→h'.get? b=some o)→Q () {s with heap:=h',toks:=tk'}):wpAny (model prog w) A (setAttr (.ref f0) (ofString "read") v) Q E s:=by
 refine hide fun G_ k_=>?_;obtain ⟨h,g,d,t,os⟩:=s;refine k_ ?_;dsimp only at hf
 refine wpAny_bind (wpAny_mkText ?_);have hT:Shared.TypeIs (⟨h,g,d,t + 1,os⟩:Shared) (.ref f0) "function":=(aA0 (_) (hf) (rfl));refine wpAny_bind (wpAny_callSpecial?_slot (name:=ofString "__setattr__") hT store_function.slot ?_);refine wpAny_call (codeAny_call_builtin store_function.slot.plain store_function.entry (store_function.slot.check _ _ _ _ _ _ _ _ hT (store_function.args _ _ _) ?_));have hpass:=store_function.passes (.ref f0)
 repeat ((fail_if_success (with_reducible show wpAny _ _ (nsSet _ _ _) _ _ _));first | rw [refuse_eq] | (rw [hpass]) | (with_reducible refine wpAny_loadPart_at hf ?_) | rw [store_function.mro] | (rw [bI7]) | wp_step)
 have hx₁:(h.push {cls:=.type "dict",data:=.dict #[]}).get? f0=some ⟨.type "function",none,.func fd,#[]⟩:=Heap.get?_push_of_some _ hf;have hxs:f0≠h.objs.size:=ne_of_lt (Heap.lt_size hf);have hgd:((h.push {cls:=.type "dict",data:=.dict #[]}).update f0 fun o=>{cls:=o.cls,dict:=some h.objs.size,data:=o.data,slots:=o.slots}).get? h.objs.size
   = some {cls:=.type "dict",data:=.dict #[]}:=(Heap.get?_update_ne _ _ _ _ hxs.symm).trans (Heap.get?_push_at rfl rfl)
 have hnd:((h.push {cls:=.type "dict",data:=.dict #[]}).update f0 fun o=>{cls:=o.cls,dict:=some h.objs.size,data:=o.data,slots:=o.slots}).Ns h.objs.size (fun u_=>none) :=
  ⟨_,#[],_,hgd,rfl,fun e he=>absurd he (by simp),fun u_=>rfl⟩
 refine wpAny_nsSet1 (Heap.Ns1.of_empty hnd) fun h' hn' hs=>?_;refine hide fun G_ k_=>?_;(refine bC8 (hn'.count (Within.cons (ofString "read") v Within.nil)) ?_;intro oD esD epD hoD hdD hcD)
 refine k_ ?_;refine wpAny_bind (wpAny_lookBehind hoD (by rw [hdD];exact pastItsLine_dict (le_trans hcD (by rw [length_cons,length_nil,sizeLine_eq];(clear hf hpass hx₁ hxs hgd k_ hoD hdD hcD;lia)))) ?_)
 wp_walk
 refine hide fun G_ k_=>?_;(refine bB1 hn' ?_;clear hn';intro o' es ep e1 e2 e3 eu e4)
 refine k_ ?_;refine hQ h.objs.size o' h' _ rfl e1 (fun hh dd e=>⟨o',es,ep,e,e2,e3,e4⟩) ?_ (fun b ob hbx hb=>?_)
 ·exact (hs.2 f0 hxs).trans (Heap.get?_update_self _ hx₁ rfl)
 ·exact (hs.2 b (ne_of_lt (Heap.lt_size hb))).trans ((Heap.get?_update_ne _ _ _ _ hbx).trans (Heap.get?_push_of_some _ hb))
end
theorem cX3 {h h₁:Heap} {L:Addr} {m:Str→Option Value} (F0:Fr h L h₁ m) (l:List (Addr × Obj)) (hl:∀ p∈l,h.get? p.1=some p.2) :
  Fr (hideAll h (l.map (·.1))) L h₁ m∧News (hideAll h (l.map (·.1))) L h₁ l∧(∀ p∈l,@LT.lt Nat _ p.1 L):=by
 have h1:h.objs.size≤L:=F0.above;have hlt:∀ p∈l,@LT.lt Nat _ p.1 L:=fun p hp=>lt_of_lt_of_le (Heap.lt_size (hl p hp)) h1;exact ⟨⟨F0.ns,fun b o e=>F0.keep b o (of_hideAll _ e),by refine rwg (hideAll_size ..) ?_;exact h1⟩,fun p hp=>⟨F0.keep _ _ (hl p hp),ne_of_lt (hlt p hp),hideAll_none _ (mem_map_of_mem hp)⟩,hlt⟩
theorem aX3 {Hb h:Heap} {as:List Addr} (hk:∀ b o,Hb.get? b=some o→h.get? b=some o) (hn:∀ a∈as,Hb.get? a=none):∀ b o,Hb.get? b=some o→(hideAll h as).get? b=some o :=
 fun b o e=>hideAll_get _ (hk b o e) fun q=>by replace e:=(hn b q ..)▸e;cases e
theorem enterL {prog:Program} {w:World} {p:Program} {loose:List Str} {mean:ExcName→Option Value} {mg mb:Str→Option Value} {A:Around} {s:Shared} {R:Result→Shared→Prop}
  {name qual:Str} {params:Arguments} {body:PySem.Expr} {scope:Scope} {cl:List (Str × Addr)} {pm ctv:Value} {c':Addr} {f:Addr} {od:Option Addr} {args:Args} {binds:List (Str × Value)}
  (T:Top p loose mean mg mb s.heap)
  (ho:s.heap.get? f=some ⟨.type "function",od,.func (kla_fn name qual params body scope cl pm (.ref c') ctv),#[]⟩) (hcd:s.heap.CodeRec (.ref c') qual) (hroom:A.depth < recursionLimit)
  (hbind:bindArgs (kla_fn name qual params body scope cl pm (.ref c') ctv) args=pure binds) (hloc:∀ y∈binds,scope.names.lookup y.1=some .local)
  (h:∀ L' h₁,Fr s.heap L' h₁ (fun y=>binds.reverse.lookup y) →
   wpAny (model prog w) (A.deeper (envX qual scope L' f (.ref c') cl)) (eval body (envX qual scope L' f (.ref c') cl)) (fun v s'=>R (.ok (.ret v)) s') (fun u_ u_=>False) {s with heap:=h₁,toks:=s.toks + binds.length})
  (hco:scope.isCoroutine=false) (hgen:scope.isGenerator=false) (hk:scope.kind=.function)
  (hcell:∀ x∈scope.names,x.2≠.cell):codeAny (model prog w) A (.call (.ref f) args) R s:=by
 refine kla_callFunE hroom ho rfl hco hgen rfl hcd ?_;refine rwg (hbind ..) ?_;refine wpAny_pure (wpAny_newFunctionEnv hcell hloc (fun h₁ hns hsb=>⟨T.nolimit.fresh _ hsb,?_⟩) hk);refine (?_:codeAny _ _ (.expr body (envX qual scope s.heap.objs.size f (.ref c') cl)) _ _);have hk₁:∀ b o,s.heap.get? b=some o→h₁.get? b=some o:=fun b o e=>hsb.extBut b o (ne_of_lt (Heap.lt_size e)) (Heap.get?_push_of_some _ e);exact kla_codeExpr (wpAny_mono (h s.heap.objs.size h₁ ⟨hns,hk₁,le_refl _⟩) (fun u_ u_ x=>x) fun u_ u_ x=>x.elim)
section
open PySem.W.X PySem.Builtin PySem.Builtin.ObjectAttr
theorem slot_fn_getattribute:Slot "function" "__getattribute__" "object.__getattribute__":=.of (owner:="object") (n:="__getattribute__") (by rw [typeLookup_type,builtinLookup_eq_fast];kernel_rfl) (by decide +kernel) (by decide +kernel) (by decide +kernel)
  (by first | exact .inl (by decide +kernel) | exact .inr (by decide +kernel)) (by rw [isSubtype_type];kernel_rfl)
theorem aT3 (a b:Value):argsOk "object.__getattribute__" ⟨[a,b],[]⟩:=by kernel_rfl
theorem aQ2:entryFor table "object.__getattribute__"=some Builtin.«object.__getattribute__»:=entryFor_of_tree (by kernel_rfl)
theorem cV1 {prog:Program} {w:World} {A:Around} {E:Value→Shared→Prop} {s:Shared} {f0 d f1:Addr} {fd:FuncData} {oD:Obj} {pl:Sem Bool} {Q:Value × List Value→Shared→Prop}
 (hf:s.heap.get? f0=some ⟨.type "function",some d,.func fd,#[]⟩) (hd:s.heap.get? d=some oD) (hD:aZ2 oD (.ref f1)) (h:∀ tk',Q (.ref f1,[]) {s with toks:=tk'}) :
 wpAny (model prog w) A (getMethod (.ref f0) (ofString "read") pl) Q E s:=by
 have hn:=hD _ _ hd;obtain ⟨hh,g,dr,t,os⟩:=s;dsimp only at hf hd hn
 repeat (first | lk | (with_reducible refine x_at ?_))
 refine x_call ?_ (fun q=>by cases q);have hT:Shared.TypeIs (⟨hh,g,dr,t + 1,os⟩:Shared) (.ref f0) "function":=(aA0 (_) (hf) (rfl));refine codeAny_call_builtin slot_fn_getattribute.plain aQ2 (slot_fn_getattribute.check _ _ _ _ _ _ _ _ hT (aT3 _ _) ?_);unfold Builtin.«object.__getattribute__»
 repeat ((fail_if_success (with_reducible show wpAny _ _ (nsGet _ _) _ _ _));first | (with_reducible refine wpAny_loadPart_at hf ?_) | (rw [bI7]) | wp_step)
 refine wpAny_nsGet hn ?_;rw [if_pos rfl]
 repeat (first | wp_step | (wp_step))
 exact h _
theorem cL5 {M:Model} {a:Addr} {o:Option Addr} {fd:FuncData} (h:Heap) (ha:h.get? a=some ⟨.type "function",o,.func fd,#[]⟩):∃ k,(k=Keeper.frame∨k=Keeper.machine∨k=Keeper.boundFrame)∧Looks M h (keeperOf (.ref a)) k :=
 (aA0 (.frame) (.inl rfl) ((Looks.ld (part:=none) ha).andThen .now))
theorem bL8 {M:Model} {A:Around} {E:Value→Shared→Prop} {s:Shared} {env:Env} {pos:Pos} {a:Addr} {o:Option Addr} {fd:FuncData} {e:PySem.Expr} {rest:List PySem.Expr} {Q:Value→Shared→Prop}
  (h:wpAny M A (spliced (backTo pos (starEach (e::rest) env))) (fun vs s₁=>s₁.heap.get? a=some ⟨.type "function",o,.func fd,#[]⟩∧wpAny M A (call (.ref a) ([]++vs)) Q E s₁) E s)
  (he:starEach (e::rest) env=(false,eval e env)::starEach rest env) (hplain:(backTo pos (starEach rest env)).any (·.1)=false) :
  wpAny M A (callWith pos (.ref a) [] (backTo pos (starEach (e::rest) env)) []) Q E s:=by
 rw [he] at h ⊢;exact callWith_of (by refine (?_:((false || (backTo pos (starEach rest env)).any (·.1)) || false)=false);rw [hplain];rfl) (cL5 (o:=o) (fd:=fd)) (evalArgs_plain h)
theorem keptU {G h h':Heap} {L a:Addr} {m:Str→Option Value} {o o':Obj} {pre:List (Addr × Obj)} (F:Fr G L h m) (N:News G L h ((a,o)::pre)) (hne:∀ q∈pre,q.1≠a)
  (k:∀ b ob,b≠a→h.get? b=some ob→h'.get? b=some ob) (ha:h'.get? a=some o'):Fr G L h' m∧News G L h' ((a,o')::pre):=by
 have h4:=N _ (.head _);refine ⟨⟨F.ns.at' fun ob e=>k L ob (Ne.symm h4.2.1) e,fun b ob e=>k b ob (fun q=>by (replace e:=(q ..)▸e;replace e:=(h4.2.2 ..)▸e);cases e) (F.keep b ob e),F.above⟩,fun q hq=>?_⟩;rcases mem_cons.mp hq with rfl | hq
 ·exact ⟨ha,h4.2⟩
 ·exact ⟨k _ _ (hne q hq) (N q (.tail _ hq)).1,(N q (.tail _ hq)).2⟩
end
section
open PySem.SeqAt PyProof.V PySem.Spec
noncomputable abbrev bI4:Arguments:={posonlyargs:=[],args:=[{arg:=ofString "many",annotation:=none,pos:=⟨180,25,180,29⟩}],vararg:=none,kwonlyargs:=[],kw_defaults:=[],kwarg:=none,defaults:=[]}
noncomputable abbrev cE1:PySem.Expr:=.IfExp (.Compare (.Name (ofString "signs") ⟨180,47,180,52⟩) [.NotEq] [.List [] ⟨180,56,180,58⟩] ⟨180,47,180,58⟩)
 (.Call (.Attribute (.Name (ofString "signs") ⟨180,31,180,36⟩) (ofString "pop") ⟨180,31,180,40⟩) [.Constant (.int 0) 0 ⟨180,41,180,42⟩] [] ⟨180,31,180,43⟩) (.Constant (.str (ofString "")) 0 ⟨180,64,180,66⟩) ⟨180,31,180,66⟩
noncomputable abbrev bQ9:Scope:={kind:=.function,names:=[(ofString "many",.local),(ofString "signs",.free)],isGenerator:=false,isCoroutine:=false,more:=[]}
noncomputable abbrev aX8 (qual:Str) (cc:Addr) (pm:Value) (c1:Addr) (ct:Value):Obj:=kla_obj (ofString "<lambda>") qual bI4 cE1 bQ9 [(ofString "signs",cc)] pm c1 ct
noncomputable abbrev bF7 (vs:List Value) (n:Nat):Obj:={cls:=.type "list",data:=.seq (toArray vs) n}
theorem ne_nil {prog:Program} {w:World} {A:Around} {E:Value→Shared→Prop} {s:Shared} {a b:Addr} {x:Value} {vs:List Value} {Q:Value→Shared→Prop} (hl:s.heap.IsList a (x::vs).toArray) (hl':s.heap.IsList b ([]:List Value).toArray) (hu:A.units < cLine) (h:Q (.bool true) s):wpAny (model prog w) A (compareOp .NotEq (.ref a) (.ref b)) Q E s :=
 SeqAt.RcNeAt.lists_lengths hl hl' rfl hu prog w E Q h
theorem back2 {h h':Heap} {L S cc b:Addr} {m:Str→Option Value} {o oC:Obj} (F:Fr (hideAll h [S,cc]) L h' m) (hc':h'.get? cc=some oC) (hc:h.get? cc=some oC) (hb:b≠S) (e:h.get? b=some o):h'.get? b=some o:=by
 by_cases q:b=cc
 ·rw [q] at e ⊢;rw [hc] at e;refine rwg (hc' ..) ?_;exact e
 ·exact F.keep _ _ (hideAll_get _ e fun z=>by
   rcases mem_cons.mp z with z | z
   ·exact hb z
   ·exact q (mem_singleton.mp z))
theorem cT7 {prog:Program} {w:World} {p:Program} {loose:List Str} {mean:ExcName→Option Value} {mg mb:Str→Option Value} {outer:List Env} {s:Shared} {R:Result→Shared→Prop}
 {Hb:Heap} {f1 cc c1 S:Addr} {qual:Str} {pm ct:Value} {oC oc1:Obj} {vs1:Array Value} {t1 t:Tok} {vs:List Value} {n:Nat} {xs:List Str}
 (X:(Mine.hd.heap_39 w.params).In Hb) (T:Top p loose mean mg mb Hb) (hk:∀ b o,Hb.get? b=some o→s.heap.get? b=some o) (hS0:Hb.get? S=none) (hc0:Hb.get? cc=none) (hne:(@Ne Nat cc S))
 (hf1:s.heap.get? f1=some (aX8 qual cc pm c1 ct)) (hc1:s.heap.get? c1=some oc1) (hd1:oc1.data=.fields vs1) (hq1:vs1[1]?=some (.str qual t1))
 (hcc:s.heap.get? cc=some oC) (hdc:oC.data=.cell (some (.ref S))) (hS:s.heap.get? S=some (bF7 vs n)) (hys:StrsAre vs xs) (hlen:xs.length≤1000)
 (hR:∀ h' tk' t' vs' n',(∀ b o,b≠S→s.heap.get? b=some o→h'.get? b=some o)→h'.get? S=some (bF7 vs' n')→StrsAre vs' xs.tail→R (.ok (.ret (.str (xs.headD (ofString "")) t'))) {s with heap:=h',toks:=tk'}) :
 codeAny (model prog w) (cA 400 700 outer) (.call (.ref f1) ⟨[.int 1 t],[]⟩) R s:=by
 refine enterL (od:=none) (T.keeps hk) hf1 ⟨c1,oc1,vs1,t1,rfl,hc1,hd1,hq1⟩ (by refine (?_:(400:Nat) < recursionLimit);decide) rfl (locs rfl) ?_ rfl rfl rfl (by decide);intro L h F0;obtain ⟨F,N,hlt⟩:=cX3 F0 [(S,bF7 vs n),(cc,oC)] (by
  intro q hq;rcases mem_cons.mp hq with rfl | hq
  ·exact hS
  ·obtain rfl:=mem_singleton.mp hq;exact hcc)
 have hb:=aX3 (as:=[S,cc]) hk (by
  intro a ha;clear hne hdc hS hR F N hlt;rcases mem_cons.mp ha with rfl | ha
  ·exact hS0
  ·clear hf1 hcc F0;obtain rfl:=mem_singleton.mp ha;exact hc0)
 have X0:=X.keeps hb;have T0:=T.keeps hb;clear F0
 k_lt hlt
 simp only [map_cons,map_nil] at F N
 dsimp only
 rcases hys with _ | ⟨x,tx,hys⟩
 ·repeat' (law_purse 400000=>(first | (k_unfold;(try dsimp only)) | ((with_reducible show wpAny _ _ (eval (Expr.Name _ _) _) _ _ _);k_dflt (refine' nameX_F ?N ?c ?m ?d ?_ ?a ?b;(case a=>rfl);(case b=>rfl);(case N=>k_asm);(case c=>rfl);(case m=>k_mem);(case d=>k_asm))) | walk1 | (dsimp only;walk1) | (leave1;walk_say "STEP leave1";try dsimp only)))
  with_reducible rename Fr _ _ _ _=>F9
  with_reducible rename News _ _ _ _=>N9
  refine hR _ _ _ [] n (fun b o hb e=>?_) (N9 _ (.tail _ (.head _))).1 .nil;exact back2 F9 (N9 _ (.tail _ (.tail _ (.head _)))).1 hcc hb e
 ·repeat' (law_purse 400000=>(first | (k_unfold;(try dsimp only)) | ((with_reducible show wpAny _ _ (eval (Expr.Name _ _) _) _ _ _);k_dflt (refine' nameX_F ?N ?c ?m ?d ?_ ?a ?b;(case a=>rfl);(case b=>rfl);(case N=>k_asm);(case c=>rfl);(case m=>k_mem);(case d=>k_asm))) | walk1 | (dsimp only;walk1) | (leave1;walk_say "STEP leave1";try dsimp only)))
  with_reducible rename News _ _ _ _=>N9
  refine ne_nil (News.isList N9 (.tail _ (.head _))) (News.isList N9 (.head _)) (by (simp only [units_under_make,units_in1,units_deeper,Around.mark_units,units_caller];decide)) ?_
  repeat' (law_purse 400000=>(first | (k_unfold;(try dsimp only)) | ((with_reducible show wpAny _ _ (eval (Expr.Name _ _) _) _ _ _);k_dflt (refine' nameX_F ?N ?c ?m ?d ?_ ?a ?b;(case a=>rfl);(case b=>rfl);(case N=>k_asm);(case c=>rfl);(case m=>k_mem);(case d=>k_asm))) | walk1 | (dsimp only;walk1) | (leave1;walk_say "STEP leave1";try dsimp only)))
  with_reducible rename Fr _ _ _ _=>F8
  have hl9:(Value.str x tx::_).length=_:=(StrsAre.cons x tx hys).length
  k_dflt (refine' kl_popAt (i:=0) (k:=0) (p:=[]) (y:=.str x tx) F8 N9 ?f ?k ?e ?U ?z ?_)
  case f=>rfl
  case U=>k_upd
  case e=>rfl
  case k=>unfold seqIndex?;simp
  case z=>refine rwg (sizeLine_eq ..) ?_;simp only [List.toList_toArray];refine rwg (hl9 ..) ?_;(clear hS0 hc0 hne hf1 hc1 hd1 hq1 hcc hdc hlt hS hl9;lia)
  intro h' F7 N7;refine hR _ _ tx _ _ (fun b o hb e=>?_) (N7 _ (.tail _ (.head _))).1 hys;exact back2 F7 (N7 (cc,oC) (by k_mem)).1 hcc hb e
end
noncomputable abbrev ent (P:Params) (x:Str) (t:Tok) (v:Value):DictEntry:={hash:=PyData.keyHash P x,key:=.str x t,val:=v}
noncomputable abbrev aL3 (P:Params) (k1 k2 k3 k4:Tok) (ln:Int) (tl:Tok) (f0:Addr) (tw:Tok) (pb:Addr) (ep:Nat):Obj :=
 dictOf [ent P (ofString "lineno") k1 (.int ln tl),ent P (ofString "instream") k2 (.ref f0),ent P (ofString "whitespace") k3 (.str (ofString "\n\t\r ") tw),ent P (ofString "pushback") k4 (.ref pb)] ep
theorem backTo {h h':Heap} {L:Addr} {as:List Addr} {m:Str→Option Value} {b:Addr} {o:Obj} (F:Fr (hideAll h as) L h' m) (hb:b∉as) (e:h.get? b=some o):h'.get? b=some o:=F.keep _ _ (hideAll_get _ e hb)
theorem g_init {prog:Program} {w:World} {p:Program} {loose:List Str} {mean:ExcName→Option Value} {mg mb:Str→Option Value} {outer:List Env} {s:Shared} {R:Result→Shared→Prop}
 {Hb:Heap} {Xa dx f0:Addr}
 (X:(Mine.hd.heap_39 w.params).In Hb) (T:Top p loose mean mg mb Hb) (hk:∀ b o,Hb.get? b=some o→s.heap.get? b=some o) (hX0:Hb.get? Xa=none) (hd0:Hb.get? dx=none) (hlt:(@LT.lt Nat _ dx Xa))
 (hX:s.heap.get? Xa=some (instObj 147 dx)) (hdx:s.heap.get? dx=some (dictOf [] 0))
 (hR:∀ h' tk' pb k1 k2 k3 k4 tl tw,(∀ b o,b≠dx→s.heap.get? b=some o→h'.get? b=some o)→h'.get? dx=some (aL3 w.params k1 k2 k3 k4 1 tl f0 tw pb 4)→h'.get? pb=some (W.listOf #[] 0)→s.heap.get? pb=none→R (.ok (.ret .none)) {s with heap:=h',toks:=tk'}) :
 codeAny (model prog w) (cA 420 750 outer) (.call (.ref 123) ⟨[.ref Xa,.ref f0],[]⟩) R s:=by
 have X':=X.keeps hk;have T':=T.keeps hk;(k_dflt (refine' bY7 ?k3 ?k5 ?k6 ?k7 ?k8 ?k9 ?kB ?_ ?c2 ?c3 ?c4 ?c5;(case k3=>k_asm);(case k5=>k_asm);(case k6=>k_is);(case k7=>k_is);(case k8=>k_room);(case k9=>exact BindsTo.of_eq rfl);(case c5=>decide);(case kB=>exact locs rfl);(case c2=>exact rfl);(case c3=>exact rfl);(case c4=>exact rfl);k_whole))
 clear X' T';intro L h F0 _;obtain ⟨F,N,hlt2⟩:=cX3 F0 [(Xa,instObj 147 dx),(dx,dictOf [] 0)] (by
  intro q hq;rcases mem_cons.mp hq with rfl | hq
  ·exact hX
  ·obtain rfl:=mem_singleton.mp hq;exact hdx)
 have hb:=aX3 (as:=[Xa,dx]) hk (by
  intro a ha;clear hlt hX F0 F N hlt2;rcases mem_cons.mp ha with rfl | ha
  ·exact hX0
  ·clear hdx hR;obtain rfl:=mem_singleton.mp ha;exact hd0)
 have X0:=X.keeps hb;have T0:=T.keeps hb;clear F0
 k_lt hlt2
 simp only [map_cons,map_nil] at F N
 repeat (law_purse 400000=>(first | (k_unfold;(try dsimp only)) | walk1 | (dsimp only;walk1) | (leave1;walk_say "STEP leave1";try dsimp only)))
 with_reducible rename Fr _ _ _ _=>F9
 with_reducible rename News _ _ _ _=>N9
 refine cB1 N9 ?_;intro pb A0 n0 rest hpb hA hn hr;subst hpb;clear hA hn hr;have hX9:=(N9 _ (.tail _ (.head _))).1;have hpX:(@Ne Nat pb Xa):=by omega
 have hpd:(@Ne Nat pb dx):=by omega
 refine hR _ _ pb _ _ _ _ _ _ (fun b o hb e=>?_) (N9 _ (.tail _ (.tail _ (.head _)))).1 (N9 _ (.head _)).1 ?_
 ·by_cases q:b=Xa
  ·rw [q] at e ⊢;rw [hX] at e;refine rwg (hX9 ..) ?_;exact e
  ·exact backTo F9 (by simp [q,hb]) e
 ·have hno:=(N9 _ (.head _)).2.2;cases q:s.heap.get? pb with
  | none=>rfl
  | some o =>
   have hin:pb∉[Xa,dx]:=by
    intro z;rcases mem_cons.mp z with z | z
    ·exact hpX z
    ·exact hpd (mem_singleton.mp z)
   exact absurd (hno.symm.trans (hideAll_get [Xa,dx] q hin)) (fun z=>by cases z)
set_option genInjectivity false in
structure LexD where
 Xa:Addr
 dx:Addr
 pb:Addr
 f0:Addr
 d:Addr
 f1:Addr
 cc:Addr
 S:Addr
 c1:Addr
 oD:Obj
 oC:Obj
 oc1:Obj
 fd0:FuncData
 q:Str
 pm:Value
 ct:Value
 k1:Tok
 k2:Tok
 k3:Tok
 k4:Tok
 tw:Tok
noncomputable abbrev LexD.stat (D:LexD):List (Addr × Obj):=[(D.Xa,instObj 147 D.dx),(D.pb,W.listOf #[] 0),(D.f0,⟨.type "function",some D.d,.func D.fd0,#[]⟩),(D.d,D.oD),(D.f1,aX8 D.q D.cc D.pm D.c1 D.ct),(D.c1,D.oc1),(D.cc,D.oC)]
noncomputable abbrev LexD.dict (D:LexD) (P:Params) (ln:Int) (tl:Tok):Obj:=aL3 P D.k1 D.k2 D.k3 D.k4 ln tl D.f0 D.tw D.pb 4
noncomputable abbrev LexD.all (D:LexD) (P:Params) (ln:Int) (tl:Tok) (vs:List Value) (n:Nat):List (Addr × Obj):=(D.S,bF7 vs n)::(D.dx,D.dict P ln tl)::D.stat
structure LexD.Ok (D:LexD):Prop where
 fn:aZ2 D.oD (.ref D.f1)
 c1d:∃ vs1 t1,D.oc1.data=.fields vs1∧vs1[1]?=some (.str D.q t1)
 ccd:D.oC.data=.cell (some (.ref D.S))
 nS:(@Ne Nat D.dx D.S)∧(@Ne Nat D.Xa D.S)∧(@Ne Nat D.pb D.S)∧(@Ne Nat D.f0 D.S)∧(@Ne Nat D.d D.S)∧(@Ne Nat D.f1 D.S)∧(@Ne Nat D.c1 D.S)∧(@Ne Nat D.cc D.S)
 nd:(@Ne Nat D.S D.dx)∧(@Ne Nat D.Xa D.dx)∧(@Ne Nat D.pb D.dx)∧(@Ne Nat D.f0 D.dx)∧(@Ne Nat D.d D.dx)∧(@Ne Nat D.f1 D.dx)∧(@Ne Nat D.c1 D.dx)∧(@Ne Nat D.cc D.dx)
structure LexAt (P:Params) (D:LexD) (h:Heap) (ln:Int) (vs:List Value) (n:Nat) (xs:List Str):Prop where
 at_:∃ tl,∀ p∈D.all P ln tl vs n,h.get? p.1=some p.2
 chs:StrsAre vs xs
 len:xs.length≤1000
 ln0:0≤ln
 ln1:ln + (xs.length:Int)≤1000000
theorem keepL {h h':Heap} {L b:Addr} {m:Str→Option Value} {o:Obj} {as ex:List Addr} (l:List (Addr × Obj)) (F:Fr (hideAll h as) L h' m) (has:∀ b∈as,b∈ex∨b∈l.map (·.1)) (h1:∀ p∈l,h.get? p.1=some p.2) (h2:∀ p∈l,h'.get? p.1=some p.2)
  (hb:b∉ex) (e:h.get? b=some o):h'.get? b=some o:=by
 by_cases q:b∈as
 ·rcases has b q with z | z
  ·exact absurd z hb
  ·(refine aA6 z ?_;intro p hp eo0;clear hb q z;subst eo0)
   rw [h1 p hp] at e;refine rwg (h2 p hp ..) ?_;exact e
 ·exact F.keep _ _ (hideAll_get _ e q)
theorem rd1 {ln:Int} {a b:Nat} (h:a + 1=b) (h1:ln + (b:Int)≤1000000):ln + 1 + (a:Int)≤1000000:=by lia
theorem rd2 {ln:Int} {a b:Nat} (h:a≤b) (h1:ln + (b:Int)≤1000000):ln + (a:Int)≤1000000:=by lia
theorem rd3 {ln:Int} {b:Nat} (h1:ln + (b:Int)≤1000000):ln≤1000000:=by lia
theorem rd4 {ln:Int} (h:0≤ln):0≤ln + 1:=by lia
theorem rd5 {xs:List Str} (h:xs≠[]):xs.tail.length + 1=xs.length:=by
 cases xs with
 | nil=>exact absurd rfl h
 | cons a r=>rfl
theorem cF7 {prog:Program} {w:World} {p:Program} {loose:List Str} {mean:ExcName→Option Value} {mg mb:Str→Option Value} {outer:List Env} {s:Shared} {R:Result→Shared→Prop}
 {Hb:Heap} {D:LexD} {ln:Int} {vs:List Value} {n:Nat} {xs:List Str}
 (X:(Mine.hd.heap_39 w.params).In Hb) (T:Top p loose mean mg mb Hb) (hk:∀ b o,Hb.get? b=some o→s.heap.get? b=some o) (hn:∀ a∈[D.S,D.dx,D.Xa,D.pb,D.f0,D.d,D.f1,D.c1,D.cc],Hb.get? a=none)
 (O:D.Ok) (hL:LexAt w.params D s.heap ln vs n xs)
 (hR:∀ h' tk' ln' vs' n' t',(∀ b o,b≠D.dx→b≠D.S→s.heap.get? b=some o→h'.get? b=some o)→LexAt w.params D h' ln' vs' n' xs.tail→R (.ok (.ret (.str (xs.headD (ofString "")) t'))) {s with heap:=h',toks:=tk'}) :
 codeAny (model prog w) (cA 390 660 outer) (.call (.ref 130) ⟨[.ref D.Xa],[]⟩) R s:=by
 have X':=X.keeps hk;have T':=T.keeps hk;(k_dflt (refine' bY7 ?k3 ?k5 ?k6 ?k7 ?k8 ?k9 ?kB ?_ ?c2 ?c3 ?c4 ?c5;(case k3=>k_asm);(case k5=>k_asm);(case k6=>k_is);(case k7=>k_is);(case k8=>k_room);(case k9=>exact BindsTo.of_eq rfl);(case c5=>decide);(case kB=>exact locs rfl);(case c2=>exact rfl);(case c3=>exact rfl);(case c4=>exact rfl);k_whole))
 clear X' T';intro L h F0 _;refine hide fun G_ k_=>?_;obtain ⟨⟨tl,hat⟩,hchs,hlen,hln0,hln1⟩:=hL;(refine aH8 (cX3 F0 _ hat) ?_;intro F N hlt2)
 refine k_ ?_;have hb:=aX3 (as:=[D.S,D.dx,D.Xa,D.pb,D.f0,D.d,D.f1,D.c1,D.cc]) hk hn;have X0:=X.keeps hb;have T0:=T.keeps hb;clear F0
 k_lt hlt2
 simp only [map_cons,map_nil] at F N
 refine hide fun G_ k_=>?_;obtain ⟨hfn,⟨vs1,t1,hd1,hq1⟩,hccd,⟨nS1,nS2,nS3,nS4,nS5,nS6,nS7,nS8⟩,⟨nd1,nd2,nd3,nd4,nd5,nd6,nd7,nd8⟩⟩:=O;refine k_ ?_;dsimp only
 repeat ((fail_if_success (with_reducible show wpAny _ _ (getMethod (Value.ref _) (ofString "read") _) _ _ _));(fail_if_success (with_reducible show wpAny _ _ (call (Value.ref _) _) _ _ _));law_purse 400000=>(first | (k_unfold;(try dsimp only)) | walk1 | (dsimp only;walk1) | (leave1;walk_say "STEP leave1";try dsimp only)))
 refine cV1 (N (D.f0,_) (by k_mem)).1 (N (D.d,D.oD) (by k_mem)).1 hfn ?_;intro tkq;dsimp only
 k_dflt (refine bL8 (o:=none) (fd:=kla_fn (ofString "<lambda>") D.q bI4 cE1 bQ9 [(ofString "signs",D.cc)] D.pm (.ref D.c1) D.ct) ?_ rfl rfl)
 repeat ((fail_if_success (with_reducible show wpAny _ _ (getMethod (Value.ref _) (ofString "read") _) _ _ _));(fail_if_success (with_reducible show wpAny _ _ (call (Value.ref _) _) _ _ _));law_purse 400000=>(first | (k_unfold;(try dsimp only)) | walk1 | (dsimp only;walk1) | (leave1;walk_say "STEP leave1";try dsimp only)))
 case' refine_1=>exact (N (D.f1,_) (by k_mem)).1
 refine wpAny_call (bF1 (cT7 X T (fun b o e=>F.keep b o (hb b o e)) (hn D.S (by simp)) (hn D.cc (by simp)) nS8 (N (D.f1,_) (by k_mem)).1 (N (D.c1,D.oc1) (by k_mem)).1 hd1 hq1 (N (D.cc,D.oC) (by k_mem)).1 hccd (N (D.S,_) (by k_mem)).1 hchs hlen ?_) rfl (le_of_ble_eq_true rfl) rfl (le_of_ble_eq_true rfl));intro h2 tk2 t2 vs2 n2 hk2 hS2 hchs2;refine hide fun G_ k_=>?_;(refine aE8 (keptU F N (by k_all) hk2 hS2) ?_;intro F2 N2)
 refine k_ ?_;dsimp only [LexD.stat,LexD.dict,aL3,ent] at N2
 clear F N;dsimp only
 have hlnb:ln≤1000000:=rd3 hln1;generalize hch:xs.headD (ofString "")=ch at *;have htlen:xs.tail.length≤xs.length:=by refine rwg (List.length_tail ..) ?_;exact Nat.sub_le _ _
 have hkeep:∀ {h':Heap} {m':Str→Option Value} {ln':Int} {tl':Tok},Fr (hideAll s.heap [D.S,D.dx,D.Xa,D.pb,D.f0,D.d,D.f1,D.c1,D.cc]) L h' m'→(∀ p∈D.all w.params ln' tl' vs2 n2,h'.get? p.1=some p.2)→∀ b o,b≠D.dx→b≠D.S→s.heap.get? b=some o→h'.get? b=some o:=by
  intro h' m' ln' tl' F' N' b o b1 b2 e;refine keepL (ex:=[D.S,D.dx]) D.stat F' (fun b hb=>?_) (fun p hp=>hat p (.tail _ (.tail _ hp))) (fun p hp=>N' p (.tail _ (.tail _ hp))) (by simp [b1,b2]) e;simp only [mem_cons,not_mem_nil,or_false,map_cons,map_nil] at hb ⊢
  rcases hb with q | q | q | q | q | q | q | q | q<;>simp [q]
 repeat' ((fail_if_success (with_reducible show wpAny _ _ (getMethod (Value.ref _) (ofString "read") _) _ _ _));(fail_if_success (with_reducible show wpAny _ _ (call (Value.ref _) _) _ _ _));law_purse 400000=>(first | (k_unfold;(try dsimp only)) | walk1 | (dsimp only;walk1) | (leave1;walk_say "STEP leave1";try dsimp only)))
 ·dsimp only
  with_reducible rename Fr _ _ _ _=>F9
  with_reducible rename News _ _ _ _=>N9
  have hne:xs≠[]:=fun z=>by
   have hq:(ch==ofString "\n")=true:=by assumption
   rw [← hch,z] at hq;exact absurd hq (by decide +kernel)
  exact hR _ _ (ln + 1) vs2 n2 _ (hkeep F9 fun p hp=>(N9 p hp).1) ⟨⟨_,fun p hp=>(N9 p hp).1⟩,hchs2,le_trans htlen hlen,rd4 hln0,rd1 (rd5 hne) hln1⟩
 ·dsimp only
  with_reducible rename Fr _ _ _ _=>F9
  with_reducible rename News _ _ _ _=>N9
  exact hR _ _ ln vs2 n2 _ (hkeep F9 fun p hp=>(N9 p hp).1) ⟨⟨tl,fun p hp=>(N9 p hp).1⟩,hchs2,le_trans htlen hlen,hln0,rd2 htlen hln1⟩
inductive Trip:List Value→Prop
 | nil:Trip []
 | cons (a b:Int) (t u:Tok) (c:Addr) {r:List Value}:Trip r→Trip (.int a t::.int b u::.ref c::r)
theorem Trip.ok {l:List Value} (h:Trip l):TriplesOk l:=by
 induction h with
 | nil=>trivial
 | cons a b t u c _ ih=>exact ih
theorem Trip.snoc {l:List Value} (h:Trip l) (a b:Int) (t u:Tok) (c:Addr):Trip (l++[.int a t,.int b u,.ref c]):=by
 induction h with
 | nil=>exact .cons _ _ _ _ _ .nil
 | cons a b t u c _ ih=>exact .cons _ _ _ _ _ ih
theorem Trip.ref {l:List Value} (h:Trip l) (pos:Pos):codeAmong pos l=none∨∃ c,codeAmong pos l=some (.ref c):=by
 induction h with
 | nil=>exact .inl rfl
 | cons a b t u c _ ih =>
  unfold codeAmong;split
  ·exact .inr ⟨_,rfl⟩
  ·exact ih
noncomputable def ifS?:Stmt→Option (Expr × List Stmt × List Stmt × Pos):=oIf fun t b o p=>some (t,b,o,p)
noncomputable def forS?:Stmt→Option (Expr × Expr × List Stmt × List Stmt × Pos):=oFor fun t it b o p=>some (t,it,b,o,p)
theorem cG8 {st:Stmt} {q:Expr × List Stmt × List Stmt × Pos} (h:ifS? st=some q):st=.If q.1 q.2.1 q.2.2.1 q.2.2.2 :=
 let ⟨t,b,o,p,e,h⟩:=oIf_is h
 (Option.some.inj h:(t,b,o,p)=q)▸e
theorem cM6 {st:Stmt} {q:Expr × Expr × List Stmt × List Stmt × Pos} (h:forS? st=some q):st=.For q.1 q.2.1 q.2.2.1 q.2.2.2.1 q.2.2.2.2 :=
 let ⟨t,i,b,o,p,e,h⟩:=cZ5 h
 (Option.some.inj h:(t,i,b,o,p)=q)▸e
inductive WZ (WV:List Value→List (Addr × Obj)→Prop) (wd:Wd):List (Addr × Obj)→Prop
 | mk (hz h0:List (Addr × Obj)) (hf:∀ a ao,wd.fz a=some ao→∃ o,(a,o)∈hz∧∀ β ρ,ao.Is β ρ o) (hv:WV wd.v h0):WZ WV wd (hz++h0)
theorem WZ.fz {WV:List Value→List (Addr × Obj)→Prop} (wd:Wd) (l:List (Addr × Obj)) (a:Addr) (ao:AO) (h:WZ WV wd l) (e:wd.fz a=some ao):∃ o,(a,o)∈l∧∀ β ρ,ao.Is β ρ o:=by
 cases h with
 | mk hz h0 hf hv=>exact let ⟨o,h1,h2⟩:=hf a ao e;⟨o,mem_append_left _ h1,h2⟩
set_option tactic.hygienic true in
theorem WZ.frz {WV:List Value→List (Addr × Obj)→Prop} (wd:Wd) (l:List (Addr × Obj)) (a:Addr) (o:Obj) (ao:AO) (h:WZ WV wd l) (hi:∀ β ρ,ao.Is β ρ o):WZ WV (wd.add a ao) ((a,o)::l):=by
 cases h with
 | mk hz h0 hf hv =>
  refine .mk (wd:=wd.add a ao) ((a,o)::hz) h0 (fun b bo e=>?_) hv;have e:(if b=a then some ao else wd.fz b)=some bo:=e;split at e
  ·rename_i q;obtain rfl:=Option.some.inj e;subst q
   exact (aA0 (o) (.head _) (hi))
  ·exact let ⟨o',h1,h2⟩:=hf b bo e;⟨o',.tail _ h1,h2⟩
noncomputable def bZ6 (a:Addr) (x:Str):List Value:=[.ref a,.str x 0]
noncomputable def bH (a:Addr) (xs:List Str):List Value:=.none::.ref a::xs.map fun x=>.str x 0
noncomputable abbrev lamQ:Str:=ofString "_law_stream"++ofString ".<locals>."++ofString "<lambda>"
noncomputable abbrev aZ7 (c0 c1:Addr):Array Value:=#[rawInt 179,rawInt 33,.ref c0,rawInt 180,rawInt 18,.ref c1]
noncomputable abbrev LexD.strm (D:LexD) (vs:List Value) (n:Nat):List (Addr × Obj):=[(D.S,bF7 vs n),(D.f0,⟨.type "function",some D.d,.func D.fd0,#[]⟩),(D.d,D.oD),(D.f1,aX8 D.q D.cc D.pm D.c1 D.ct),(D.c1,D.oc1),(D.cc,D.oC)]
structure LexD.Ok0 (D:LexD):Prop where
 fn:aZ2 D.oD (.ref D.f1)
 c1d:∃ vs1 t1,D.oc1.data=.fields vs1∧vs1[1]?=some (.str D.q t1)
 ccd:D.oC.data=.cell (some (.ref D.S))
 q:D.q=lamQ
structure CharsOk (vs:List Value) (xs:List Str):Prop where
 st:StrsAre vs xs
 n:xs.length≤1000
 h1:∀ y∈xs,y.length=1
inductive WMain (P:Params):List Value→List (Addr × Obj)→Prop
 | none (ps:Array Value) (tr:Trip ps.toList):WMain P [] [(104,tabObj ps),(170,tabObj #[])]
 | strm (ps:Array Value) (tr:Trip ps.toList) (c0:Addr) (D:LexD) (vs:List Value) (n:Nat) (x:Str) (o:D.Ok0) (ok:CharsOk vs (signs x)):WMain P (bZ6 D.f0 x) ((104,tabObj ps)::(170,tabObj (aZ7 c0 D.c1))::D.strm vs n)
 | lex (ps:Array Value) (tr:Trip ps.toList) (c0:Addr) (D:LexD) (ln:Int) (tl:Tok) (vs:List Value) (n:Nat) (xs:List Str) (o:D.Ok0) (ok:CharsOk vs xs) (l0:0≤ln) (l1:ln + (xs.length:Int)≤1000000):WMain P (bH D.Xa xs) ((104,tabObj ps)::(170,tabObj (aZ7 c0 D.c1))::D.all P ln tl vs n)
theorem cD0 {x y:Str} (h:y∈signs x):y.length=1:=by
 (refine aA6 h ?_;intro n _ eo0;clear h;subst eo0)
 rfl
theorem LexD.Ok.of {D:LexD} {P:Params} {ln:Int} {tl:Tok} {vs:List Value} {n:Nat} (o:D.Ok0) (nd:((D.all P ln tl vs n).map (·.1)).Nodup):D.Ok:=by
 have nd:[D.S,D.dx,D.Xa,D.pb,D.f0,D.d,D.f1,D.c1,D.cc].Nodup:=nd;rw [nodup_cons,nodup_cons] at nd;have a:∀ x∈[D.dx,D.Xa,D.pb,D.f0,D.d,D.f1,D.c1,D.cc],(@Ne Nat x D.S):=fun x hx e=>nd.1 (e▸hx);have b:∀ x∈[D.Xa,D.pb,D.f0,D.d,D.f1,D.c1,D.cc],(@Ne Nat x D.dx):=fun x hx e=>nd.2.1 (e▸hx);exact ⟨o.fn,o.c1d,o.ccd,⟨a _ (by simp),a _ (by simp),a _ (by simp),a _ (by simp),a _ (by simp),a _ (by simp),a _ (by simp),a _ (by simp)⟩,⟨Ne.symm (a _ (by simp)),b _ (by simp),b _ (by simp),b _ (by simp),b _ (by simp),b _ (by simp),b _ (by simp),b _ (by simp)⟩⟩
noncomputable def globD:List (Str × Value):=[(ofString "S_IFMT",.ref 45),(ofString "_filemode_table",.ref 78),(ofString "filemode",.ref 85),(ofString "_twin_re_1",.ref 90),(ofString "escape",.ref 102),(ofString "_translate",.ref 109),(ofString "_netrclex",.ref 147),
 (ofString "_law_items",.ref 156),(ofString "_law_signs",.ref 163),(ofString "_law_written",.ref 168),(ofString "_law_stream",.ref 175),(ofString "_law_step",.ref 180),(ofString "_law_meant",.ref 187),(ofString "_law_taken",.ref 192),(ofString "_law_laid",.ref 197)]
noncomputable def globB:List (Str × Value):=[(ofString "len",.builtin "len"),(ofString "ord",.builtin "ord"),(ofString "chr",.builtin "chr"),(ofString "sum",.builtin "sum"),(ofString "list",.type "list"),(ofString "range",.type "range"),(ofString "enumerate",.type "enumerate")]
noncomputable def globU (x:Str):Option Value:=match globD.lookup x with
 | some v=>some v
 | none=>globB.lookup x
noncomputable def tabL:List (Addr × AO):=[(46,.tup [.int 40960,.str (ofString "l")]),(47,.tup [.int 49152,.str (ofString "s")]),(48,.tup [.int 32768,.str (ofString "-")]),(49,.tup [.int 24576,.str (ofString "b")]),(50,.tup [.int 16384,.str (ofString "d")]),(51,.tup [.int 8192,.str (ofString "c")]),(52,.tup [.int 4096,.str (ofString "p")]),(53,.tup [.val (.ref 46),.val (.ref 47),.val (.ref 48),.val (.ref 49),.val (.ref 50),.val (.ref 51),.val (.ref 52)]),(54,.tup [.int 256,.str (ofString "r")]),(55,.tup [.val (.ref 54)]),(56,.tup [.int 128,.str (ofString "w")]),(57,.tup [.val (.ref 56)]),(58,.tup [.int 2112,.str (ofString "s")]),(59,.tup [.int 2048,.str (ofString "S")]),(60,.tup [.int 64,.str (ofString "x")]),(61,.tup [.val (.ref 58),.val (.ref 59),.val (.ref 60)]),(62,.tup [.int 32,.str (ofString "r")]),(63,.tup [.val (.ref 62)]),(64,.tup [.int 16,.str (ofString "w")]),(65,.tup [.val (.ref 64)]),(66,.tup [.int 1032,.str (ofString "s")]),(67,.tup [.int 1024,.str (ofString "S")]),(68,.tup [.int 8,.str (ofString "x")]),(69,.tup [.val (.ref 66),.val (.ref 67),.val (.ref 68)]),(70,.tup [.int 4,.str (ofString "r")]),(71,.tup [.val (.ref 70)]),(72,.tup [.int 2,.str (ofString "w")]),(73,.tup [.val (.ref 72)]),(74,.tup [.int 513,.str (ofString "t")]),(75,.tup [.int 512,.str (ofString "T")]),(76,.tup [.int 1,.str (ofString "x")]),(77,.tup [.val (.ref 74),.val (.ref 75),.val (.ref 76)]),(78,.tup [.val (.ref 53),.val (.ref 55),.val (.ref 57),.val (.ref 61),.val (.ref 63),.val (.ref 65),.val (.ref 69),.val (.ref 71),.val (.ref 73),.val (.ref 77)])]
noncomputable def tabU (a:Addr):Option AO:=tabL.lookup a
noncomputable def fnL:List Addr:=[45,85,102,109,147,156,163,168,175,180,187,192,197]
noncomputable def fnU:Value→Bool
 | .builtin id=>id=="len" || id=="ord" || id=="chr" || id=="sum"
 | .type T=>T=="list" || T=="range"
 | .ref f=>fnL.any (·==f)
 | _=>false
noncomputable def noHk:Hk:=⟨fun u_=>false,fun u_ u_ u_ u_=>False,fun u_ u_ u_ u_=>False⟩
noncomputable def isDict (e:Expr):Bool:=Nat.beq e.ctorIdx 6
noncomputable def bY9 (e:Expr):Bool:=(bK8 (fun g u_ u_ u_=>(aY4 g).map fun t=>isDict t.1) e).getD false
noncomputable def sgHk (P:Params):Hk:=⟨bY9,fun G e σ K=>sgE P=some (G.cs,e)∧∃ b',σ.loc.lookup (ofString "bits")=some (.int b')∧K (.str (bM2 (b'.fdiv 4096))) σ,fun u_ u_ u_ u_=>False⟩
noncomputable def dA3:Expr→Option Expr:=bK8 fun g u_ u_ u_=>some g
noncomputable def bO6:List AV→Option (AV × AV × AV × AV)
 | [a,b,c,d]=>some (a,b,c,d)
 | _=>none
noncomputable def ldHk:Hk:=⟨fun e=>(dA3 e).bind aE7==some (ofString "list"),fun G e σ K=>∃ e1 e2 p1 p2 p3 p4,(e=.Call (.Name (ofString "list") p1) [.Call (.Name (ofString "zip") p2) [e1,e2] [] p3] [] p4∧G.cs.names.lookup (ofString "list")=some .globalImplicit∧G.cs.names.lookup (ofString "zip")=some .globalImplicit∧aG5 e1=true∧aG5 e2=true)∧ev 20 G false e1 σ fun x σ1=>ev 20 G false e2 σ1 fun y σ2=>aB4 ((aB G σ2 x).bind bO6) fun xs=>aB4 ((aB G σ2 y).bind bO6) fun ys =>
 σ2.mkK (.tup [xs.1,ys.1]) fun k1 σ3=>σ3.mkK (.tup [xs.2.1,ys.2.1]) fun k2 σ4=>σ4.mkK (.tup [xs.2.2.1,ys.2.2.1]) fun k3 σ5=>σ5.mkK (.tup [xs.2.2.2,ys.2.2.2]) fun k4 σ6=>σ6.mkK (.list [.obj k1,.obj k2,.obj k3,.obj k4]) fun k=>K (.obj k),fun u_ u_ u_ u_=>False⟩
noncomputable def oCmp {α:Type} (f:Expr→Option α):Expr→Option α:=bH0 Expr.ctorIdx 15 fun t h=>Expr.Compare.elim t h fun a u_ u_ u_=>f a
noncomputable def is0 (e:Expr):Bool:=cH1 (fun c u_ u_=>(cst? c).bind AV.int?) e==some 0
noncomputable def dC5 (e:Expr):Bool:=(oCmp (oSub fun o i u_=>some (aK0 o && is0 i)) e).getD false
noncomputable def tkHk:Hk:=⟨dC5,fun u_ u_ u_ u_=>False,fun G st σ K=>aB4 (ifS? st) fun q=>ev 20 G true q.1 σ fun c σ1=>aS8 c (exR G 40 q.2.1 σ1 K) (ex G 40 q.2.2.1 σ1 K)⟩
noncomputable def cF5:List Stmt→Option (List Stmt)
 | []=>none
 | st::r=>match oWhile (fun u_ b u_ u_=>some b) st with
  | some b=>some b
  | none=>cF5 r
noncomputable def ifO?:Stmt→Option (List Stmt):=oIf fun u_ u_ o u_=>some o
noncomputable def ifB?:Stmt→Option (List Stmt):=oIf fun u_ b u_ u_=>some b
noncomputable def asgE?:Stmt→Option Expr:=oAsg fun u_ e u_=>some e
noncomputable def trFd (P:Params):Option (Scope × List Stmt):=match (Mine.hd.heap_39 P).lookup 109 with
 | some ⟨_,_,.func fd,_⟩=>match fd.body with
  | .stmts b=>some (fd.scope,b)
  | _=>none
 | _=>none
noncomputable def trBr (b:List Stmt):Option (List Stmt):=(cF5 b).bind fun w=>w[2]?.bind fun s=>(ifO? s).bind fun o=>o[0]?.bind fun s=>(ifO? s).bind fun o=>o[0]?.bind fun s=>(ifB? s).bind fun b=>b[4]?.bind ifO?
noncomputable def bM3 (P:Params):Option (Scope × Expr):=(trFd P).bind fun q=>(trBr q.2).bind fun o=>o[2]?.bind fun s=>(asgE? s).map fun e=>(q.1,e)
noncomputable def bC (P:Params):Option (Scope × Expr):=(trFd P).bind fun q=>(trBr q.2).bind fun o=>o[1]?.bind fun s=>(ifO? s).bind fun o=>o[6]?.bind fun s=>(asgE? s).map fun e=>(q.1,e)
noncomputable def cI3 (e:Expr):Bool:=(bK8 (fun g as u_ u_=>(aY2 as).map fun a=>Nat.beq a.ctorIdx 11 && (aY4 g).isSome) e).getD false
noncomputable def isSubC (e:Expr):Bool:=(bK8 (fun g as u_ u_=>(cK5 as).map fun q=>Nat.beq q.1.ctorIdx 4 && (aY4 g).isSome) e).getD false
noncomputable def cU8 (s:Str):Option Str:=[(ofString "!-",ofString "!\\-"),(ofString "r",ofString "r"),(ofString "x",ofString "x"),(ofString "",ofString ""),(ofString "!",ofString "!")].lookup s
noncomputable def subL:List Str:=[ofString "st",ofString "!\\-",ofString "r-x",ofString "",ofString "!"]
noncomputable def trHk (P:Params):Hk:=⟨fun e=>cI3 e || isSubC e,fun G e σ K=>sel (cI3 e)
  (bC P=some (G.cs,e)∧aB4 (σ.loc.lookup (ofString "chunks")) fun a=>aB4 (aB G σ a) fun xs=>aB4 (aD6 AV.str? xs) fun ys=>∃ zs,(ys.mapM cU8=some zs∧Nat.ble ys.length 2=true)∧K (.str (Txt.join (ofString "-") zs)) σ)
  (bM3 P=some (G.cs,e)∧aB4 (σ.loc.lookup (ofString "stuff")) fun a=>aB4 a.str? fun x=>subL.any (·==x)=true∧K (.str x) σ),fun u_ u_ u_ u_=>False⟩
noncomputable def escL:List Str:=[ofString "r",ofString "w",ofString "x",ofString "d"]
noncomputable def escP (as:List AV) (σ:St) (K:AV→St→Prop):Prop:=aB4 (aY2 as) fun a=>aB4 a.str? fun x=>∃ y,(if escL.any (·==x)=true then some x else if (x==ofString "-")=true then some (ofString "\\-") else none)=some y∧K (.str y) σ
noncomputable def bN5 (as:List AV) (σ:St) (K:AV→St→Prop):Prop:=aB4 (aY2 as) fun a=>aB4 a.str? fun x=>x.length≤1000∧∀ b,K (.val (.ref b)) ⟨σ.loc,σ.obj,⟨bZ6 b x,σ.wd.fz⟩⟩
noncomputable def lexP (as:List AV) (σ:St) (K:AV→St→Prop):Prop:=aB4 (aY2 as) fun a=>aB4 (bK3 a) fun b=>∃ x,σ.wd.v=bZ6 b x∧∀ c,K (.val (.ref c)) ⟨σ.loc,σ.obj,⟨bH c (signs x),σ.wd.fz⟩⟩
noncomputable def cE (as:List AV) (σ:St) (K:AV→St→Prop):Prop:=aB4 (aY2 as) fun a=>aB4 (bK3 a) fun b=>∃ xs,σ.wd.v=bH b xs∧K (.str (aA9 xs).1) ⟨σ.loc,σ.obj,⟨bH b (aA9 xs).2,σ.wd.fz⟩⟩
noncomputable def bN8:Value→Bool
 | .ref f=>f==102 || f==137 || f==147 || f==175
 | _=>false
noncomputable def primU (as:List AV) (σ:St) (K:AV→St→Prop):Value→Prop
 | .ref f=>sel (f==102) (escP as σ K) <| sel (f==137) (cE as σ K) <| sel (f==147) (lexP as σ K) <| aG8 (f==175) (bN5 as σ K)
 | _=>False
noncomputable def bJ1 (w:Wd) (a:Addr) (nm:Str):Option Addr:=match w.v with
 | .none::.ref b::_=>match a==b && nm==ofString "get_token" with
  | true=>some 137
  | false=>none
 | _=>none
noncomputable def hkU (P:Params) (f:Addr):Hk:=match f==163 with
 | true=>sgHk P
 | false=>match f==197 with
  | true=>ldHk
  | false=>match f==192 with
   | true=>tkHk
   | false=>match f==109 with
    | true=>trHk P
    | false=>noHk
noncomputable def aF8 (P:Params):Un where
 K:=Mine.hd.heap_39 P
 glob:=globU
 tab:=tabU
 W:=WZ (WMain P)
 isPrim:=bN8
 prim:=fun u_ g as σ K=>primU as σ K g
 fn:=fnU
 vmeth:=bJ1
 hk:=hkU P
noncomputable def bO5 (P:Params) (f:Addr):FuncData:=((bC9 (Mine.hd.heap_39 P) (.ref f)).map (·.2)).getD default
noncomputable def bB8 (P:Params) (f:Addr):List Stmt:=(bW7 (bO5 P f)).getD []
noncomputable def okB (P:Params) (f:Addr) (k:Nat):Bool:=(bC9 (Mine.hd.heap_39 P) (.ref f)).isSome && fdOk (Mine.hd.heap_39 P) (bO5 P f) && k==(aR6 (bO5 P f)).length && (bW7 (bO5 P f)).isSome
theorem all0 {P:List Value→Prop} (h:P []) (vs:List Value) (e:vs.length=0):P vs:=by
 refine rwg (List.eq_nil_of_length_eq_zero e ..) ?_;exact h
theorem cJ7 {P:List Value→Prop} {n:Nat} (h:∀ a vs,vs.length=n→P (a::vs)) (vs:List Value) (e:vs.length=n + 1):P vs:=by
 induction vs with
 | nil=>cases e
 | cons a r=>exact h a r (Nat.succ.inj e)
theorem all1 {P:List Value→Prop} (h:∀ a,P [a]):∀ vs:List Value,vs.length=1→P vs:=cJ7 fun a=>all0 (h a)
theorem all2 {P:List Value→Prop} (h:∀ a b,P [a,b]):∀ vs:List Value,vs.length=2→P vs:=cJ7 fun a=>cJ7 fun b=>all0 (h a b)
theorem all3 {P:List Value→Prop} (h:∀ a b c,P [a,b,c]):∀ vs:List Value,vs.length=3→P vs:=cJ7 fun a=>cJ7 fun b=>cJ7 fun c=>all0 (h a b c)
theorem all4 {P:List Value→Prop} (h:∀ a b c d,P [a,b,c,d]):∀ vs:List Value,vs.length=4→P vs:=cJ7 fun a=>cJ7 fun b=>cJ7 fun c=>cJ7 fun d=>all0 (h a b c d)
structure InfoOk (P:Params) (f:Addr) (cs:Scope) (ps:List Str):Prop where
 ok:okB P f ps.length=true
 sc:(bO5 P f).scope=cs
 pe:aR6 (bO5 P f)=ps
 bd:∀ vs:List Value,vs.length=ps.length→bindArgs (bO5 P f) ⟨vs,[]⟩=pure (ps.zip vs)
theorem InfoOk.fd {P:Params} {f:Addr} {cs:Scope} {ps:List Str} (I:InfoOk P f cs ps):∃ fd,bC9 (Mine.hd.heap_39 P) (.ref f)=some (f,fd)∧fdOk (Mine.hd.heap_39 P) fd=true∧fd.scope=cs∧aR6 fd=ps∧cG6 fd∧bW7 fd=some (bB8 P f):=by
 refine hide fun G_ k_=>?_;obtain ⟨c,rfl,rfl,h4⟩:=I;unfold okB at c;rw [Bool.and_eq_true,Bool.and_eq_true,Bool.and_eq_true] at c;(refine aE8 c ?_;clear c;intro no0 c4;obtain ⟨⟨c1,c2⟩,_⟩:=no0)
 (refine aJ9 (isSome_iff_exists.mp c1) ?_;intro no0 e1;obtain ⟨g,fd⟩:=no0)
 (refine aJ9 (isSome_iff_exists.mp c4) ?_;intro b e2)
 (refine aE8 (bN9 e1) ?_;intro hg _)
 obtain rfl:f=g:=Value.ref.inj hg;refine k_ ?_;have ef:fd=bO5 P f:=by unfold bO5;refine rwg (e1 ..) ?_;rfl
 exact (bZ3 (_) (ef▸e1) (c2) (rfl) (rfl) (h4) (by unfold bB8;refine rwg (e2 ..) ?_;rfl))
theorem aX9 {U:Un} {P:Params} {n:Nat} {base:List AO} {f:Addr} {cs:Scope} {ps:List Str} {as:List AV} {σ:St} {K:AV→St→Prop} (I:InfoOk P f cs ps) (hU:U.K=Mine.hd.heap_39 P) (hp:U.isPrim (.ref f)=false) (hl:as.length=ps.length) (pb:List (AV × AO)) (as':List AV) (ce:List (Str × Nat)) (b0:List AO) (l0:List (Str × AV)) (o0:List AO)
  (hup:as'.mapM (up pb)=some as) (hpb:∀ p∈pb,∃ ao,aY9 (gB base U.tab U.W) σ p.1=some ao∧upO pb p.2=some ao) (hce:bV3 (aB8 cs.names []) 0=ce) (hb:pb.map (·.2)=b0) (hl0:aT7 cs (ps.zip as')=l0) (ho:aL4 (aB8 cs.names []) (ps.zip as')=o0)
  (hex:ex (U.G (U.call n) f cs ce b0) 60 (bB8 P f) ⟨l0,o0,σ.wd⟩ (dB3 pb σ K)):aG6 (aF4 U (n + 1) base (.ref f) as σ K):=by
 refine hide fun G_ k_=>?_;(refine bH1 (I.fd) ?_;intro fd e1 c2 eo0 eo1 h4 e2;clear I;subst eo0;subst eo1)
 subst hce;subst hb;subst hl0;subst ho
 refine k_ ?_;refine bB0 ?_;(refine rwg (bA2 ..) ?_;refine rwg (hp ..) ?_)
 refine (?_:aI6 (bC9 U.K (.ref f)) _ _);(refine rwg (hU ..) ?_;refine rwg (e1 ..) ?_)
 refine ⟨⟨hU▸c2,h4,hl⟩,?_⟩;refine rwg (e2 ..) ?_;exact ⟨pb,as',⟨hup,hpb⟩,hex⟩
noncomputable abbrev gFn (P:Params) (n:Nat) (f:Addr) (cs:Scope) (ce:List (Str × Nat)) (base:List AO):Gx:=(aF8 P).G ((aF8 P).call n) f cs ce base
theorem aL1 {P:Params} {n:Nat} {base:List AO} {f:Addr} {cs:Scope} {ps:List Str} {as:List AV} {σ:St} {K:AV→St→Prop} (I:InfoOk P f cs ps) (hl:as.length=ps.length) (hp:bN8 (.ref f)=false) (pb:List (AV × AO)) (as':List AV) (ce:List (Str × Nat)) (b0:List AO) (l0:List (Str × AV)) (o0:List AO)
  (hup:as'.mapM (up pb)=some as) (hpb:∀ p∈pb,∃ ao,aY9 (gB base (aF8 P).tab (aF8 P).W) σ p.1=some ao∧upO pb p.2=some ao) (hce:bV3 (aB8 cs.names []) 0=ce) (hb:pb.map (·.2)=b0) (hl0:aT7 cs (ps.zip as')=l0) (ho:aL4 (aB8 cs.names []) (ps.zip as')=o0)
  (hex:ex (gFn P n f cs ce b0) 60 (bB8 P f) ⟨l0,o0,σ.wd⟩ (dB3 pb σ K)):aG6 (aF4 (aF8 P) (n + 1) base (.ref f) as σ K) :=
 aX9 I rfl hp hl pb as' ce b0 l0 o0 hup hpb hce hb hl0 ho hex
theorem aN9 {P:Params} {n:Nat} {base:List AO} {f:Addr} {cs:Scope} {ps:List Str} {as:List AV} {σ:St} {K:AV→St→Prop} (I:InfoOk P f cs ps) (hl:as.length=ps.length) (hp:bN8 (.ref f)=false) (ce:List (Str × Nat)) (l0:List (Str × AV)) (o0:List AO)
  (hup:as.mapM (up [])=some as) (hce:bV3 (aB8 cs.names []) 0=ce) (hl0:aT7 cs (ps.zip as)=l0) (ho:aL4 (aB8 cs.names []) (ps.zip as)=o0)
  (hex:ex (gFn P n f cs ce []) 60 (bB8 P f) ⟨l0,o0,σ.wd⟩ (dB3 [] σ K)):aG6 (aF4 (aF8 P) (n + 1) base (.ref f) as σ K) :=
 aX9 I rfl hp hl [] as ce [] l0 o0 hup (fun u_ hp=>nomatch hp) hce rfl hl0 ho hex
theorem bQ2 {a:AV} (h:aV2 a=true) (n0:Nat) (sel:List Nat):bD6 n0 sel a=some a:=by cases a<;>first | rfl | cases h
theorem cA1 {a:AV} (h:aV2 a=true) (pb:List (AV × AO)) (n0:Nat):dn pb n0 a=some a:=by cases a<;>first | rfl | cases h
theorem cZ2 {a:AV} (h:aV2 a=true) (pb:List (AV × AO)):up pb a=some a:=by cases a<;>first | rfl | cases h
theorem aQ7 {f:AV→Option AV}:∀ {xs:List AV},(∀ a∈xs,f a=some a)→xs.mapM f=some xs
 | [],_=>rfl
 | a::r,h=>by
  (refine rwg (mapM_cons ..) ?_;refine rwg (h a (.head _) ..) ?_;refine rwg (aQ7 (xs:=r) fun b hb=>h b (.tail _ hb) ..) ?_);rfl
theorem aR4 {xs:List AV} (h:xs.all aV2=true) (n0:Nat) (sel:List Nat):xs.mapM (bD6 n0 sel)=some xs:=aQ7 fun a ha=>bQ2 (all_eq_true.mp h a ha) n0 sel
theorem aV0 {xs:List AV} (h:xs.all aV2=true) (pb:List (AV × AO)) (n0:Nat):xs.mapM (dn pb n0)=some xs:=aQ7 fun a ha=>cA1 (all_eq_true.mp h a ha) pb n0
theorem aQ5 {xs:List AV} (h:xs.all aV2=true) (pb:List (AV × AO)):xs.mapM (up pb)=some xs:=aQ7 fun a ha=>cZ2 (all_eq_true.mp h a ha) pb
theorem aB6 (ns:List Int):(ns.map AV.int).all aV2=true:=by refine rwg (all_map ..) ?_;exact all_eq_true.mpr fun u_ u_=>rfl
theorem cF (ns:List Str):(ns.map AV.str).all aV2=true:=by refine rwg (all_map ..) ?_;exact all_eq_true.mpr fun u_ u_=>rfl
theorem aD2 (ns:List Bool):(ns.map AV.bool).all aV2=true:=by refine rwg (all_map ..) ?_;exact all_eq_true.mpr fun u_ u_=>rfl
theorem aG3 {pb:List (AV × AO)} {σ σ':St} {K:AV→St→Prop} {a:AV} (hs:aV2 a=true) (h:K a ⟨σ.loc,σ.obj,σ'.wd⟩):dB3 pb σ K (.ret a) σ' :=
 ⟨[],_,a,a,[],by refine (?_:(Nat.ble 0 _ && true && true)=true);rfl,rfl,bQ2 hs _ _,cA1 hs _ _,rfl,by refine rwg (append_nil ..) ?_;exact h⟩
theorem aA2 {n0:Nat} {sel:List Nat} {xs:List AV} (h:xs.all aV2=true):bK6 n0 sel (.list xs)=some (.list xs):=by
 refine (?_:Option.map _ (xs.mapM _)=_);refine rwg (aR4 h ..) ?_;rfl
theorem cN6 {pb:List (AV × AO)} {n0:Nat} {xs:List AV} (h:xs.all aV2=true):dnO pb n0 (.list xs)=some (.list xs):=by
 refine (?_:Option.map _ (xs.mapM _)=_);refine rwg (aV0 h ..) ?_;rfl
theorem bT1 {α β:Type} {f:α→Option β} {a:α} {b:β} (h:f a=some b):[a].mapM f=some [b]:=by
 refine rwg (mapM_cons ..) ?_;refine rwg h ?_;rfl
theorem cA8 {pb:List (AV × AO)} {σ σ':St} {K:AV→St→Prop} {k:Nat} {xs:List AV} (hk:σ'.obj[k]?=some (.list xs)) (hs:xs.all aV2=true) (h:K (.obj σ.obj.length) ⟨σ.loc,σ.obj++[.list xs],σ'.wd⟩):dB3 pb σ K (.ret (.obj k)) σ':=by
 have hlt:=(List.getElem?_eq_some_iff.mp hk).1;refine ⟨[k],⟨[],[.list xs],σ'.wd⟩,.obj 0,.obj σ.obj.length,[.list xs],?_,?_,?_,rfl,?_,h⟩
 ·have:Nat.blt k σ'.obj.length=true:=Nat.ble_eq_true_of_le hlt;simp [aM2,aP,this]
 ·unfold bF2 pick aP6 aP6 cV0;refine rwg (hk ..) ?_;refine (?_:Option.map _ (List.mapM (bK6 _ _) [AO.list xs])=_);refine rwg (bT1 (aA2 hs)) ?_;rfl
 ·have:Nat.blt k 0=false:=by clear hk hlt;cases k<;>rfl
  simp [bD6,ren,find?,this]
 ·exact bT1 (cN6 hs)
theorem aI0:∀ ns:List Int,aD6 AV.int? (ns.map .int)=some ns
 | []=>rfl
 | n::r=>by
  refine (?_:(some n).bind (fun x=>(aD6 AV.int? (r.map .int)).map (x::·))=_);refine rwg (aI0 r ..) ?_;rfl
theorem aT0:∀ ns:List Str,aD6 AV.str? (ns.map .str)=some ns
 | []=>rfl
 | n::r=>by
  refine (?_:(some n).bind (fun x=>(aD6 AV.str? (r.map .str)).map (x::·))=_);refine rwg (aT0 r ..) ?_;rfl
noncomputable def bC2 (G:Gx) (n:Nat) (t:Expr) (b o:List Stmt) (K:Fl→St→Prop) (k:St→Prop) (n0:Nat):List AV→St→Prop
 | [],σ=>ex G n o σ (aE3 K k)
 | c::r,σ=>asg G t c σ fun σ3=>ex G n b σ3 (aC2 K k (again n0 (bC2 G n t b o K k n0 r)))
theorem bF9 {G:Gx} {n:Nat} {t:Expr} {b o:List Stmt} {K:Fl→St→Prop} {k:St→Prop} {n0 nn:Nat} {a:Int} {σ1:St} (h:bC2 G n t b o K k n0 ((List.range nn).map fun i:Nat=>AV.int (a - i)) σ1) :
  ∃ I:Nat→St→Prop,I 0 σ1∧(∀ i σ2,I i σ2→True)∧(∀ i σ2 c,I i σ2→(Sq.d a nn).At i c→asg G t c σ2 fun σ3=>ex G n b σ3 (aC2 K k (again n0 (I (i + 1)))))∧∀ σ2,I (Sq.d a nn).len σ2→ex G n o σ2 (aE3 K k):=by
 refine (bM6 (fun i σ=>bC2 G n t b o K k n0 (((List.range nn).map fun i:Nat=>AV.int (a - i)).drop i) σ) (h) (fun u_ u_ u_=>trivial) (fun i σ2 c hI hc=>?_) (fun σ2 hI=>?_))
 ·(refine aE8 hc ?_;clear hc;intro hi eo0;subst eo0)
  have e2:((List.range nn).map fun i:Nat=>AV.int (a - i)).drop i=.int (a - i)::((List.range nn).map fun i:Nat=>AV.int (a - i)).drop (i + 1):=by
   refine rwg (List.drop_eq_getElem_cons (by simpa using hi) ..) ?_;simp
  simp only [e2] at hI
  exact hI
 ·have hI:bC2 G n t b o K k n0 (((List.range nn).map fun i:Nat=>AV.int (a - i)).drop nn) σ2:=hI;rw [List.drop_eq_nil_of_le (by simp)] at hI;exact hI
noncomputable def whB (G:Gx) (n:Nat) (t:Expr) (b o:List Stmt) (K:Fl→St→Prop) (k:St→Prop) (n0:Nat) (J:St→Prop) (σ:St):Prop :=
 ev n G true t σ fun c σ2=>aS8 c (ex G n b σ2 (aC2 K k (again n0 J))) (ex G n o σ2 (aE3 K k))
noncomputable def whX (G:Gx) (n:Nat) (t:Expr) (b o:List Stmt) (K:Fl→St→Prop) (k:St→Prop) (n0:Nat):Nat→St→Prop
 | 0,_=>False
 | f + 1,σ=>whX G n t b o K k n0 f σ∨whB G n t b o K k n0 (whX G n t b o K k n0 f) σ
theorem cB9 {G:Gx} {n:Nat} {t:Expr} {b o:List Stmt} {K:Fl→St→Prop} {k:St→Prop} {n0:Nat}:∀ f:Nat,whX G n t b o K k n0 f=fun σ=>∃ j,j < f∧whB G n t b o K k n0 (whX G n t b o K k n0 j) σ
 | 0=>by
  funext σ
  exact propext ⟨fun h=>h.elim,fun ⟨_,h,_⟩=>absurd h (Nat.not_lt_zero _)⟩
 | f + 1=>by
  funext σ
  refine propext ⟨fun h=>?_,fun ⟨j,hj,h⟩=>?_⟩
  ·rcases h with h | h
   ·rw [cB9 f] at h;(refine aA3 h ?_;clear h;intro j hj h)
    exact (aA0 (j) (lt_succ_of_lt hj) (h))
   ·exact ⟨f,lt_succ_self f,h⟩
  ·rcases Nat.lt_or_ge j f with h1 | h1
   ·exact .inl (by refine rwg (cB9 f ..) ?_;exact (aA0 (j) (h1) (h)))
   ·obtain rfl:j=f:=by lia
    exact .inr h
theorem bD0 {G:Gx} {n:Nat} {t:Expr} {b o:List Stmt} {K:Fl→St→Prop} {k:St→Prop} {n0:Nat} {σ:St} (f:Nat) (h:whB G n t b o K k n0 (whX G n t b o K k n0 f) σ) :
  ∃ (I:Nat→St→Prop) (j:Nat),I j σ∧∀ j σ1,I j σ1→ev n G true t σ1 fun c σ2=>aS8 c (ex G n b σ2 (aC2 K k (again n0 fun σ3=>∃ i,i < j∧I i σ3))) (ex G n o σ2 (aE3 K k)):=by
 refine ⟨fun j σ=>whB G n t b o K k n0 (whX G n t b o K k n0 j) σ,f,h,fun j σ1 h=>?_⟩;have h:whB G n t b o K k n0 (whX G n t b o K k n0 j) σ1:=h;rw [cB9 j] at h;exact h
theorem aP7 {G:Gx} {n:Nat} {t:Expr} {b o:List Stmt} {K:Fl→St→Prop} {k:St→Prop} {n0 f:Nat} {σ:St} (h:whB G n t b o K k n0 (whX G n t b o K k n0 f) σ):again n0 (whX G n t b o K k n0 (f + 1)) σ:=.here (.inr h)
theorem dA8 {G:Gx} {n:Nat} {t:Expr} {b o:List Stmt} {K:Fl→St→Prop} {k:St→Prop} {n0:Nat} {l:List AV} {σ:St} (h:bC2 G n t b o K k n0 l σ):again n0 (bC2 G n t b o K k n0 l) σ:=.here h
theorem aZ9 {α:Type} {f:AV→Option α} {a:AV} {x:α} (h:f a=some x):∀ {as:List AV} {xs:List α},aD6 f as=some xs→aD6 f (as++[a])=some (xs++[x])
 | [],xs,e=>by
  obtain rfl:=Option.some.inj e;refine (?_:(f a).bind _=_);refine rwg (h ..) ?_;rfl
 | b::r,xs,e=>by
  (refine aA1 e ?_;intro y hy e)
  (refine aB9 e ?_;intro ys hys eo0;clear e;clear e;subst eo0)
  refine (?_:(f b).bind _=_);refine rwg (hy ..) ?_;refine (?_:(aD6 f (r++[a])).map _=_);refine rwg (aZ9 h hys ..) ?_;rfl
inductive RenOs (n0:Nat) (sel:List Nat):List AO→List AO→Prop
 | nil:RenOs n0 sel [] []
 | cons {a b r l} (h:bK6 n0 sel a=some b) (t:RenOs n0 sel r l):RenOs n0 sel (a::r) (b::l)
theorem RenOs.mapM {n0:Nat} {sel:List Nat} {r l:List AO} (h:RenOs n0 sel r l):r.mapM (bK6 n0 sel)=some l:=by
 induction h with
 | nil=>rfl
 | cons h _ ih=>(refine rwg (mapM_cons ..) ?_;refine rwg (h ..) ?_;refine rwg (ih ..) ?_);rfl
theorem bD8 {n0:Nat} {sel:List Nat} {σ:St} {loc:List (Str × AV)} {os obj:List AO} (hl:cV0 n0 sel σ.loc=some loc) (hp:pick n0 sel σ.obj=os) (ho:RenOs n0 sel os obj):bF2 n0 sel σ=some ⟨loc,obj,σ.wd⟩:=by
 unfold bF2;(refine rwg (hl ..) ?_;refine rwg (hp ..) ?_;refine rwg (ho.mapM ..) ?_);rfl
theorem aL {pb:List (AV × AO)} {σ σ':St} {K:AV→St→Prop} {a a' a'':AV} (sel:List Nat) {ps os1 os:List AO} (h:(aM2 0 σ'.obj.length sel && aP sel)=true) (hp:pick 0 sel σ'.obj=ps) (ho:RenOs 0 sel ps os1) (ha:bD6 0 sel a=some a') (hd:dn pb σ.obj.length a'=some a'') (hos:os1.mapM (dnO pb σ.obj.length)=some os) (hK:K a'' ⟨σ.loc,σ.obj++os,σ'.wd⟩):dB3 pb σ K (.ret a) σ' :=
 ⟨sel,_,a',a'',os,h,bD8 (σ:=⟨[],σ'.obj,σ'.wd⟩) rfl hp ho,ha,hd,hos,hK⟩
theorem bN2 {α β:Type} {f:α→Option β}:∀ {l:List α} {r:List β},l.length=r.length→(∀ (i:Nat) a b,l[i]?=some a→r[i]?=some b→f a=some b)→l.mapM f=some r
 | [],[],_,_=>rfl
 | a::l,b::r,h,hf=>by
  (refine rwg (mapM_cons ..) ?_;refine rwg (hf 0 a b rfl rfl ..) ?_;refine rwg (bN2 (l:=l) (r:=r) (Nat.succ.inj h) fun i x y hx hy=>hf (i + 1) x y hx hy ..) ?_);rfl
theorem aL9 {α β γ:Type} {f:β→Option γ} {g:α→β} {k:α→γ} {l:List α} (h:∀ a∈l,f (g a)=some (k a)):(l.map g).mapM f=some (l.map k):=by
 refine bN2 (by (refine rwg (length_map ..) ?_;refine rwg (length_map ..) ?_;rfl)) fun i a b ha hb=>?_;rw [getElem?_map] at ha hb;(refine aB9 ha ?_;intro x hx eo0;subst eo0)
 rw [hx] at hb;obtain rfl:=Option.some.inj hb;exact h x (mem_of_getElem? hx)
theorem aF0 {α β:Type} {f:α→Option β} {a b:List α} {x y:List β} (h1:a.mapM f=some x) (h2:b.mapM f=some y):(a++b).mapM f=some (x++y):=by
 (refine rwg (List.mapM_append ..) ?_;refine rwg (h1 ..) ?_;refine rwg (h2 ..) ?_);rfl
theorem aB0 {n0:Nat} {J:St→Prop} {σ:St} (keep:List Str) (sel:List Nat) {loc:List (Str × AV)} {os obj:List AO} (h:(aM2 n0 σ.obj.length sel && aP sel)=true) (hl:cV0 n0 sel (σ.only keep).loc=some loc) (hp:pick n0 sel σ.obj=os) (ho:RenOs n0 sel os obj) (hJ:J ⟨loc,obj,σ.wd⟩):again n0 J σ :=
 .ren keep sel _ h (bD8 hl hp ho) hJ
theorem aN5 {n:Nat} (h:Nat.ble n 1000=true):n≤sizeLine:=le_trans (le_of_ble_eq_true h) (by refine rwg (sizeLine_eq ..) ?_;decide)
theorem aD5 {a b:Str} {n m:Nat} (h1:a.length≤n) (h2:b.length≤m):(a++b).length≤n + m:=by refine rwg (Str.length_append ..) ?_;lia
theorem aM6 {c:Prop} [Decidable c] {a b:Str} {n:Nat} (h1:a.length≤n) (h2:b.length≤n):(if c then a else b).length≤n:=by split<;>assumption
theorem aF9 {c:Prop} [Decidable c] {a b:Str} (h1:a.length≤1) (h2:b.length≤1):(if c then a else b).length≤1:=by split<;>assumption
theorem cB5 {a b:Str} {n m:Nat} (ha:a.length≤n) (hb:b.length≤m) (h:n + m≤sizeLine):a.length + b.length≤sizeLine:=le_trans (Nat.add_le_add ha hb) h
theorem aM9 {α:Type} {o:Option α} {a:α} {f:α→Prop} (h:o=some a) (hf:f a):aB4 o f:=by subst h;exact hf
theorem bR7 {a:Int} (h:a≠0):∀ n:Nat,a ^ n≠0
 | 0=>by refine rwg (Int.pow_zero ..) ?_;decide
 | n + 1=>by refine rwg (Int.pow_succ ..) ?_;exact Int.mul_ne_zero (bR7 h n) h
theorem bU (b:Bool):(b==true)=b:=by cases b<;>rfl
noncomputable def sc45:Scope:={kind:=.function,names:=[(ofString "mode",NameKind.local)],isGenerator:=false,isCoroutine:=false}
noncomputable def ps45:List Str:=[ofString "mode"]
theorem in45 (P:Params):InfoOk P 45 sc45 ps45:=⟨by kernel_rfl,by kernel_rfl,by kernel_rfl,all1 fun a=>by kernel_rfl⟩
noncomputable def sc85:Scope:={kind:=.function,names:=[(ofString "mode",NameKind.local),(ofString "perm",NameKind.local),(ofString "index",NameKind.local),(ofString "table",NameKind.local),(ofString "bit",NameKind.local),(ofString "char",NameKind.local),(ofString "enumerate",NameKind.globalImplicit),(ofString "_filemode_table",NameKind.globalImplicit),(ofString "S_IFMT",NameKind.globalImplicit)],isGenerator:=false,isCoroutine:=false}
noncomputable def ps85:List Str:=[ofString "mode"]
theorem in85 (P:Params):InfoOk P 85 sc85 ps85:=⟨by kernel_rfl,by kernel_rfl,by kernel_rfl,all1 fun a=>by kernel_rfl⟩
noncomputable def sc109:Scope:={kind:=.function,names:=[(ofString "pat",NameKind.local),(ofString "STAR",NameKind.local),(ofString "QUESTION_MARK",NameKind.local),(ofString "res",NameKind.local),(ofString "add",NameKind.local),(ofString "i",NameKind.local),(ofString "n",NameKind.local),(ofString "c",NameKind.local),(ofString "j",NameKind.local),(ofString "stuff",NameKind.local),(ofString "chunks",NameKind.local),(ofString "k",NameKind.local),(ofString "chunk",NameKind.local),(ofString "len",NameKind.globalImplicit),(ofString "range",NameKind.globalImplicit),(ofString "_twin_re_1",NameKind.globalImplicit),(ofString "escape",NameKind.globalImplicit)],isGenerator:=false,isCoroutine:=false}
noncomputable def ps109:List Str:=[ofString "pat",ofString "STAR",ofString "QUESTION_MARK"]
theorem in109 (P:Params):InfoOk P 109 sc109 ps109:=⟨by kernel_rfl,by kernel_rfl,by kernel_rfl,all3 fun a b c=>by kernel_rfl⟩
noncomputable def sc156 (P:Params):Scope:={kind:=.function,names:=[(ofString "x",NameKind.cell),(ofString "items",NameKind.cell),(ofString "range",NameKind.globalImplicit)],isGenerator:=false,isCoroutine:=false,more:=(bO5 P 156).scope.more}
noncomputable def ps156:List Str:=[ofString "x"]
theorem in156 (P:Params):InfoOk P 156 (sc156 P) ps156:=⟨by kernel_rfl,by kernel_rfl,by kernel_rfl,all1 fun a=>by kernel_rfl⟩
noncomputable def cA9:Scope:={kind:=.function,names:=[(ofString "bits",NameKind.local),(ofString "text",NameKind.local),(ofString "k",NameKind.local),(ofString "more",NameKind.local),(ofString "three",NameKind.local),(ofString "last",NameKind.local)],isGenerator:=false,isCoroutine:=false}
noncomputable def ps163:List Str:=[ofString "bits"]
theorem in163 (P:Params):InfoOk P 163 cA9 ps163:=⟨by kernel_rfl,by kernel_rfl,by kernel_rfl,all1 fun a=>by kernel_rfl⟩
noncomputable def sc168 (P:Params):Scope:={kind:=.function,names:=[(ofString "word",NameKind.cell),(ofString "x",NameKind.cell),(ofString "signs",NameKind.local),(ofString "range",NameKind.globalImplicit),(ofString "len",NameKind.globalImplicit)],isGenerator:=false,isCoroutine:=false,more:=(bO5 P 168).scope.more}
noncomputable def ps168:List Str:=[ofString "word",ofString "x"]
theorem in168 (P:Params):InfoOk P 168 (sc168 P) ps168:=⟨by kernel_rfl,by kernel_rfl,by kernel_rfl,all2 fun a b=>by kernel_rfl⟩
noncomputable def sc180 (P:Params):Scope:={kind:=.function,names:=[(ofString "signs",NameKind.cell),(ofString "places",NameKind.local),(ofString "some",NameKind.cell),(ofString "barred",NameKind.cell)],isGenerator:=false,isCoroutine:=false,more:=(bO5 P 180).scope.more}
noncomputable def ps180:List Str:=[ofString "signs",ofString "places",ofString "some",ofString "barred"]
theorem in180 (P:Params):InfoOk P 180 (sc180 P) ps180:=⟨by kernel_rfl,by kernel_rfl,by kernel_rfl,all4 fun a b c d=>by kernel_rfl⟩
noncomputable def sc187:Scope:={kind:=.function,names:=[(ofString "items",NameKind.local),(ofString "signs",NameKind.local),(ofString "places",NameKind.local),(ofString "text",NameKind.local),(ofString "some",NameKind.local),(ofString "barred",NameKind.local),(ofString "list",NameKind.globalImplicit),(ofString "range",NameKind.globalImplicit),(ofString "len",NameKind.globalImplicit),(ofString "_law_step",NameKind.globalImplicit)],isGenerator:=false,isCoroutine:=false}
noncomputable def ps187:List Str:=[ofString "items",ofString "signs"]
theorem in187 (P:Params):InfoOk P 187 sc187 ps187:=⟨by kernel_rfl,by kernel_rfl,by kernel_rfl,all2 fun a b=>by kernel_rfl⟩
noncomputable def sc192 (P:Params):Scope:={kind:=.function,names:=[(ofString "pattern",NameKind.local),(ofString "signs",NameKind.local),(ofString "star",NameKind.local),(ofString "places",NameKind.local),(ofString "part",NameKind.local),(ofString "barred",NameKind.local),(ofString "body",NameKind.local),(ofString "some",NameKind.local),(ofString "_translate",NameKind.globalImplicit),(ofString "list",NameKind.globalImplicit),(ofString "range",NameKind.globalImplicit),(ofString "len",NameKind.globalImplicit),(ofString "ord",NameKind.globalImplicit),(ofString "_law_step",NameKind.globalImplicit)],isGenerator:=false,isCoroutine:=false,more:=(bO5 P 192).scope.more}
noncomputable def ps192:List Str:=[ofString "pattern",ofString "signs"]
theorem in192 (P:Params):InfoOk P 192 (sc192 P) ps192:=⟨by kernel_rfl,by kernel_rfl,by kernel_rfl,all2 fun a b=>by kernel_rfl⟩
noncomputable def aY0 (P:Params):Scope:={kind:=.function,names:=[(ofString "answers",NameKind.local),(ofString "word",NameKind.cell),(ofString "found",NameKind.local),(ofString "pairs",NameKind.local),(ofString "list",NameKind.globalImplicit),(ofString "zip",NameKind.globalImplicit)],isGenerator:=false,isCoroutine:=false,more:=(bO5 P 197).scope.more}
noncomputable def ps197:List Str:=[ofString "answers",ofString "word",ofString "found"]
theorem cL2 (P:Params):InfoOk P 197 (aY0 P) ps197:=⟨by kernel_rfl,by kernel_rfl,by kernel_rfl,all3 fun a b c=>by kernel_rfl⟩
noncomputable def bH2 (P:Params):Scope:={kind:=.function,names:=[(ofString "script",NameKind.local),(ofString "modes",NameKind.local),(ofString "text",NameKind.local),(ofString "due",NameKind.local),(ofString "rows",NameKind.local),(ofString "listing",NameKind.local),(ofString "x",NameKind.local),(ofString "items",NameKind.cell),(ofString "word",NameKind.local),(ofString "lexer",NameKind.local),(ofString "answers",NameKind.local),(ofString "words",NameKind.cell),(ofString "found",NameKind.local),(ofString "ends",NameKind.local),(ofString "sum",NameKind.globalImplicit),(ofString "_law_items",NameKind.globalImplicit),(ofString "len",NameKind.globalImplicit),(ofString "_law_laid",NameKind.globalImplicit),(ofString "_law_written",NameKind.globalImplicit),(ofString "_netrclex",NameKind.globalImplicit),(ofString "_law_stream",NameKind.globalImplicit)],isGenerator:=false,isCoroutine:=false,more:=(bO5 P 202).scope.more}
noncomputable def ps202:List Str:=[ofString "script"]
theorem in202 (P:Params):InfoOk P 202 (bH2 P) ps202:=⟨by kernel_rfl,by kernel_rfl,by kernel_rfl,all1 fun a=>by kernel_rfl⟩
theorem cH5 {P:Params} {n:Nat} {base:List AO} {x:Int} {σ:St} {K:AV→St→Prop} (hK:K (.int (Builtin.bitAnd x 61440)) σ):aG6 (aF4 (aF8 P) (n + 1) base (.ref 45) [.int x] σ K):=by
 refine aN9 (in45 P) rfl rfl [] [(ofString "mode",.int x)] [] rfl rfl rfl rfl ?_;refine (?_:∃ _,_);exact aG3 rfl hK
theorem aM4 {A1 A2 B:Prop} (h1:A1) (h2:A2) (b:B):A1∧A2∧B:=⟨h1,h2,b⟩
theorem cM0 {A1 A2 A3 B:Prop} (h1:A1) (h2:A2) (h3:A3) (b:B):A1∧A2∧A3∧B:=⟨h1,h2,h3,b⟩
theorem and4 {A1 A2 A3 A4 B:Prop} (h1:A1) (h2:A2) (h3:A3) (h4:A4) (b:B):A1∧A2∧A3∧A4∧B:=⟨h1,h2,h3,h4,b⟩
theorem and5 {A1 A2 A3 A4 A5 B:Prop} (h1:A1) (h2:A2) (h3:A3) (h4:A4) (h5:A5) (b:B):A1∧A2∧A3∧A4∧A5∧B:=⟨h1,h2,h3,h4,h5,b⟩
theorem and6 {A1 A2 A3 A4 A5 A6 B:Prop} (h1:A1) (h2:A2) (h3:A3) (h4:A4) (h5:A5) (h6:A6) (b:B):A1∧A2∧A3∧A4∧A5∧A6∧B:=⟨h1,h2,h3,h4,h5,h6,b⟩
theorem and8 {A1 A2 A3 A4 A5 A6 A7 A8 B:Prop} (h1:A1) (h2:A2) (h3:A3) (h4:A4) (h5:A5) (h6:A6) (h7:A7) (h8:A8) (b:B):A1∧A2∧A3∧A4∧A5∧A6∧A7∧A8∧B:=⟨h1,h2,h3,h4,h5,h6,h7,h8,b⟩
theorem and10 {A1 A2 A3 A4 A5 A6 A7 A8 A9 A10 B:Prop} (h1:A1) (h2:A2) (h3:A3) (h4:A4) (h5:A5) (h6:A6) (h7:A7) (h8:A8) (h9:A9) (h10:A10) (b:B):A1∧A2∧A3∧A4∧A5∧A6∧A7∧A8∧A9∧A10∧B:=⟨h1,h2,h3,h4,h5,h6,h7,h8,h9,h10,b⟩
@[elab_as_elim] theorem aY8 {P:(Fl→St→Prop)→Prop} (K0:Fl→St→Prop) (h:∀ X:Fl→St→Prop,(∀ fl σ,K0 fl σ→X fl σ)→P X):P K0:=h K0 fun u_ u_ h=>h
theorem aP0 {G:Gx} {f:Bool→Expr→St→(AV→St→Prop)→Prop} {tg elt:Expr} {ct:Option Expr} {σ:St} {K:Nat→St→Prop} {q:Sq} {st:St→Prop} (L:Nat→List AV) (h0:L 0=[]) (hs:st σ)
  (ht:∀ i c T,(∀ y,more (L i) y=L (i + 1)→T y σ)→q.At i c→bK G f tg elt ct c σ.loc σ T) (hk:σ.mkK (.list (L q.len)) K) :
  ∃ I:Nat→List AV→St→Prop,I 0 [] σ∧(∀ i ys σ1,I i ys σ1→st σ1∧σ1.loc=σ.loc)∧(∀ i ys σ1 c,I i ys σ1→q.At i c→bK G f tg elt ct c σ.loc σ1 fun y σ2=>I (i + 1) (more ys y) σ2)∧∀ ys σ1,I q.len ys σ1→σ1.mkK (.list ys) K :=
 ⟨fun i ys τ=>τ=σ∧ys=L i,⟨rfl,h0.symm⟩,fun i ys σ1 e=>by obtain ⟨rfl,rfl⟩:=e;exact ⟨hs,rfl⟩,fun i ys σ1 c e hc=>by obtain ⟨rfl,rfl⟩:=e;exact ht i c _ (fun y e=>⟨rfl,e⟩) hc,fun ys σ1 e=>by obtain ⟨rfl,rfl⟩:=e;exact hk⟩
theorem bF0 {G:Gx} {f:Bool→Expr→St→(AV→St→Prop)→Prop} {tg elt:Expr} {ct:Option Expr} {loc:List (Str × AV)} {obj:List AO} {wd:Wd} {K:Nat→St→Prop} {q:Sq} {st:St→Prop} (L:Nat→List AV) (h0:L 0=[]) (hs:st ⟨loc,obj,wd⟩)
  (ht:∀ i c T,(∀ y,more (L i) y=L (i + 1)→T y ⟨loc,obj,wd⟩)→q.At i c→bK G f tg elt ct c loc ⟨loc,obj,wd⟩ T) (hk:St.mkK ⟨loc,obj,wd⟩ (.list (L q.len)) K) :
  ∃ I:Nat→List AV→St→Prop,I 0 [] ⟨loc,obj,wd⟩∧(∀ i ys σ1,I i ys σ1→st σ1∧σ1.loc=loc)∧(∀ i ys σ1 c,I i ys σ1→q.At i c→bK G f tg elt ct c loc σ1 fun y σ2=>I (i + 1) (more ys y) σ2)∧∀ ys σ1,I q.len ys σ1→σ1.mkK (.list ys) K:=aP0 L h0 hs ht hk
theorem cv_wd {G:Gx} {f:Bool→Expr→St→(AV→St→Prop)→Prop} {tg elt:Expr} {ct:Option Expr} {loc:List (Str × AV)} {obj:List AO} {v0:List Value} {fz:Addr→Option AO} {K:Nat→St→Prop} {q:Sq} {st:St→Prop} (L:Nat→List AV) (h0:L 0=[]) (hs:∀ v,st ⟨loc,obj,⟨v,fz⟩⟩)
  (ht:∀ i c v T,(∀ y v,more (L i) y=L (i + 1)→T y ⟨loc,obj,⟨v,fz⟩⟩)→q.At i c→bK G f tg elt ct c loc ⟨loc,obj,⟨v,fz⟩⟩ T) (hk:∀ v,St.mkK ⟨loc,obj,⟨v,fz⟩⟩ (.list (L q.len)) K) :
  ∃ I:Nat→List AV→St→Prop,I 0 [] ⟨loc,obj,⟨v0,fz⟩⟩∧(∀ i ys σ1,I i ys σ1→st σ1∧σ1.loc=loc)∧(∀ i ys σ1 c,I i ys σ1→q.At i c→bK G f tg elt ct c loc σ1 fun y σ2=>I (i + 1) (more ys y) σ2)∧∀ ys σ1,I q.len ys σ1→σ1.mkK (.list ys) K :=
 ⟨fun i ys τ=>(∃ v,τ=⟨loc,obj,⟨v,fz⟩⟩)∧ys=L i,⟨⟨_,rfl⟩,h0.symm⟩,fun i ys σ1 e=>by obtain ⟨⟨v,rfl⟩,rfl⟩:=e;exact ⟨hs v,rfl⟩,fun i ys σ1 c e hc=>by obtain ⟨⟨v,rfl⟩,rfl⟩:=e;exact ht i c v _ (fun y v e=>⟨⟨v,rfl⟩,e⟩) hc,fun ys σ1 e=>by obtain ⟨⟨v,rfl⟩,rfl⟩:=e;exact hk v⟩
theorem aA4 {c:Bool} {X Y:Prop}:c=true→X→(match c with | true=>X | false=>Y):=fun h hx=>by
 subst h;exact hx
theorem aC3 {c:Bool} {X Y:Prop}:c=false→Y→(match c with | true=>X | false=>Y):=fun h hy=>by
 subst h;exact hy
theorem aC {α:Type} {o:Option α} {f:α→Prop} {g:Prop} {a:α}:o=some a→f a→aI6 o f g:=fun h hx=>by
 subst h;exact hx
theorem aJ3 {α:Type} {o:Option α} {f:α→Prop} {g:Prop}:o=Option.none→g→aI6 o f g:=fun h hx=>by
 subst h;exact hx
section
variable {f:Expr→St→(AV→St→Prop)→Prop} {e1 e2 e3 e4:Expr} {σ:St} {K:List AV→St→Prop}
theorem aA5 (h:f e1 σ fun a σ1=>K [a] σ1):evs f [e1] σ K:=by
 refine rwg (aU6 ..) ?_;simp only [evs_0];exact h
theorem aC9 (h:f e1 σ fun a σ1=>f e2 σ1 fun b σ2=>K [a,b] σ2):evs f [e1,e2] σ K:=by
 refine rwg (aU6 ..) ?_;simp only [aU6,evs_0];exact h
theorem aC7 (h:f e1 σ fun a σ1=>f e2 σ1 fun b σ2=>f e3 σ2 fun c σ3=>K [a,b,c] σ3):evs f [e1,e2,e3] σ K:=by
 refine rwg (aU6 ..) ?_;simp only [aU6,evs_0];exact h
theorem aH7 (h:f e1 σ fun a σ1=>f e2 σ1 fun b σ2=>f e3 σ2 fun c σ3=>f e4 σ3 fun d σ4=>K [a,b,c,d] σ4):evs f [e1,e2,e3,e4] σ K:=by
 refine rwg (aU6 ..) ?_;simp only [aU6,evs_0];exact h
end
noncomputable def fmT:List (List (Int × Str)):=[[(40960,ofString "l"),(49152,ofString "s"),(32768,ofString "-"),(24576,ofString "b"),(16384,ofString "d"),(8192,ofString "c"),(4096,ofString "p")],
 [(256,ofString "r")],[(128,ofString "w")],[(2112,ofString "s"),(2048,ofString "S"),(64,ofString "x")],[(32,ofString "r")],[(16,ofString "w")],[(1032,ofString "s"),(1024,ofString "S"),(8,ofString "x")],[(4,ofString "r")],[(2,ofString "w")],[(513,ofString "t"),(512,ofString "T"),(1,ofString "x")]]
noncomputable def bitC (x k:Int):Bool:=Builtin.bitAnd x k==k
noncomputable def cX (x:Int) (i:Nat) (k:Int):Bool:=if i=0 then Builtin.bitAnd x 61440==k else bitC x k
noncomputable def aK (x:Int) (i:Nat):List (Int × Str)→Str
 | []=>if i=0 then ofString "?" else ofString "-"
 | (k,y)::r=>if cX x i k=true then y else aK x i r
noncomputable def fmS (x:Int):Nat→List (List (Int × Str))→List Str
 | _,[]=>[]
 | i,t::r=>aK x i t::fmS x (i + 1) r
noncomputable def fmL (x:Int):List Str:=fmS x 0 fmT
theorem cS3 (x:Int):∀ (i j:Nat) (l:List (List (Int × Str))) (t:List (Int × Str)),l[j]?=some t→(fmS x i l)[j]?=some (aK x (i + j) t)
 | i,j,[],t,h=>by cases h
 | i,0,a::r,t,h=>by cases h;rfl
 | i,j + 1,a::r,t,h=>by
  refine (?_:(fmS x (i + 1) r)[j]?=_);(refine rwg (cS3 x (i + 1) j r t h ..) ?_;refine rwg (show i + 1 + j=i + (j + 1) by (clear h;lia)) ?_;rfl)
theorem aU {α:Type} {f:AV→Option α}:∀ {as:List AV} {xs:List α},aD6 f as=some xs→as.length=xs.length
 | [],xs,e=>by obtain rfl:=Option.some.inj e;rfl
 | b::r,xs,e=>by
  (refine aA1 e ?_;intro y hy e)
  (refine aB9 e ?_;intro ys hys eo0;clear e;clear e;subst eo0)
  (refine rwg (length_cons ..) ?_;refine rwg (length_cons ..) ?_;refine rwg (aU hys ..) ?_;rfl)
theorem aW3 (x:Int) (i:Nat):∀ r:List (Int × Str),r.all (fun p=>p.2.length==1)=true→(aK x i r).length=1
 | [],_=>by
  unfold aK;split<;>decide +kernel
 | (k,y)::r,h=>by
  (refine aE8 (Bool.and_eq_true_iff.mp h) ?_;intro h1 h2)
  unfold aK;split
  ·exact eq_of_beq h1
  ·exact aW3 x i r h2
theorem cF1 (x:Int):∀ (i:Nat) (l:List (List (Int × Str))),l.all (fun r=>r.all fun p=>p.2.length==1)=true→(fmS x i l).map Str.length=List.replicate l.length 1
 | _,[],_=>rfl
 | i,t::r,h=>by
  (refine aE8 (Bool.and_eq_true_iff.mp h) ?_;intro h1 h2)
  refine (?_:(aK x i t).length::(fmS x (i + 1) r).map Str.length=_);(refine rwg (aW3 x i t h1 ..) ?_;refine rwg (cF1 x (i + 1) r h2 ..) ?_);rfl
theorem fm_len (x:Int):((fmL x).map fun x=>x.length).sum + (fmL x).length * (ofString "").length≤16777216:=by
 have h:=cF1 x 0 fmT (by decide +kernel);have e:(fmL x).map (fun x=>x.length)=List.replicate fmT.length 1:=h;have e2:(fmL x).length=fmT.length:=by
  have:=congrArg List.length e;rwa [length_map,List.length_replicate] at this
 (refine rwg (e ..) ?_;refine rwg (e2 ..) ?_)
 decide +kernel
theorem fm0 {i:Nat}:((i:Int)==0)=true↔i=0:=by rw [beq_iff_eq];lia
theorem fm1 {i:Nat}:((i:Int)==0)=false↔i≠0:=by rw [beq_eq_false_iff_ne];lia
inductive RowOk:List AV→List (Int × Str)→Prop
 | nil:RowOk [] []
 | cons {a b y es r} (h:tabU a=some (.tup [.int b,.str y])) (t:RowOk es r):RowOk (.val (.ref a)::es) ((b,y)::r)
theorem RowOk.at_:∀ {es:List AV} {r:List (Int × Str)},RowOk es r→∀ {j:Nat} {e:AV},es[j]?=some e→∃ a b y,e=.val (.ref a)∧tabU a=some (.tup [.int b,.str y])∧r.drop j=(b,y)::r.drop (j + 1):=by
 intro es r H
 induction H with
 | nil=>intro j e he;cases he
 | cons h t ih =>
  intro j e he;cases j with
  | zero=>cases he;exact ⟨_,_,_,rfl,h,rfl⟩
  | succ j=>exact ih (j:=j) he
theorem RowOk.length {es:List AV} {r:List (Int × Str)} (h:RowOk es r):es.length=r.length:=by
 induction h with
 | nil=>rfl
 | cons _ _ ih=>(refine rwg (length_cons ..) ?_;refine rwg (length_cons ..) ?_;refine rwg (ih ..) ?_;rfl)
theorem cY9 {i:Nat} {c:AV} (h:[AV.val (.ref 53),.val (.ref 55),.val (.ref 57),.val (.ref 61),.val (.ref 63),.val (.ref 65),.val (.ref 69),.val (.ref 71),.val (.ref 73),.val (.ref 77)][i]?=some c) :
  ∃ a es r,c=.val (.ref a)∧tabU a=some (.tup es)∧RowOk es r∧fmT[i]?=some r∧r.length≤10:=by
 rcases i with _ | _ | _ | _ | _ | _ | _ | _ | _ | _ | i
 all_goals first | (exact absurd (List.getElem?_eq_some_iff.mp h).1 (Nat.not_lt.mpr (Nat.le_add_left 10 _))) | (obtain rfl:=Option.some.inj h;exact ⟨_,_,_,rfl,rfl,by repeat (first | exact .nil | refine .cons rfl ?_),rfl,by decide⟩)
noncomputable def cV3 (x:Int) (l:List (Str × AV)) (vs:List AV) (wd:Wd):St:=⟨(ofString "mode",.int x)::(ofString "perm",.obj 0)::l,[.list vs],wd⟩
noncomputable def fmR (l:List (Str × AV)):Prop:=l=[]∨∃ c d,l=[(ofString "bit",c),(ofString "char",d)]
theorem fmR2 {c d:AV}:fmR [(ofString "bit",c),(ofString "char",d)]:=.inr (aT2 (c) (d) (rfl))
noncomputable def fmI (x:Int) (wd:Wd) (i:Nat) (σ:St):Prop:=∃ vs l,aD6 AV.str? vs=some ((fmL x).take i)∧σ=cV3 x l vs wd∧(l=[]∨∃ a b r,fmR r∧l=(ofString "index",a)::(ofString "table",b)::r)
noncomputable def fmJ (x:Int) (i:Nat) (c:AV) (vs:List AV) (row:List (Int × Str)) (wd:Wd) (j:Nat) (σ:St):Prop:=∃ l,fmR l∧σ=cV3 x ((ofString "index",.int i)::(ofString "table",c)::l) vs wd∧aK x i row=aK x i (row.drop j)
theorem bF5 {x:Int} {i:Nat} {vs:List AV} {a:AV} {c:Str} {wd:Wd} {σ:St} (hvs:aD6 AV.str? vs=some ((fmL x).take i)) (ha:a.str?=some c) {a1 b1:AV} {r:List (Str × AV)} (hr:fmR r) (e:σ=cV3 x ((ofString "index",a1)::(ofString "table",b1)::r) (vs++[a]) wd) (hc:(fmL x)[i]?=some c):fmI x wd (i + 1) σ:=by
 (refine aH5 hc ?_;intro hi hc)
 exact ⟨_,_,by (refine rwg (take_succ_eq_append_getElem hi ..) ?_;refine rwg (hc ..) ?_);exact aZ9 ha hvs,e,.inr ⟨_,_,_,hr,rfl⟩⟩
theorem cV {G:Gx} {a:Addr} {es:List AV} (h:G.tab a=some (.tup es)) (σ:St):aW G σ (.val (.ref a))=some es:=by
 refine (?_:(G.tab a).bind AO.tup?=_);refine rwg (h ..) ?_;rfl
theorem cO7 {G:Gx} {a:Addr} {es:List AV} (h:G.tab a=some (.tup es)) (σ:St):aB G σ (.val (.ref a))=none:=by
 refine (?_:(G.tab a).bind AO.list?=_);refine rwg (h ..) ?_;rfl
theorem cO3 {P:Params} {n:Nat} {x:Int} {i:Nat} {c:AV} {vs:List AV} {wd:Wd} {l:List (Str × AV)} {K:St→Prop} (hl:l=[]∨∃ a b r,fmR r∧l=(ofString "index",a)::(ofString "table",b)::r)
  (h:∀ l,fmR l→K (cV3 x ((ofString "index",.int i)::(ofString "table",c)::l) vs wd)):aM (gFn P n 85 sc85 [] []) [ofString "table",ofString "index"].reverse [.int i,c] (cV3 x l vs wd) K:=by
 rcases hl with rfl | ⟨a',b',r,hr,rfl⟩
 ·exact h [] (.inl rfl)
 ·exact h r hr
theorem fm_asg {P:Params} {n:Nat} {x:Int} {i:Nat} {c:AV} {vs:List AV} {wd:Wd} {l:List (Str × AV)} {ea:Addr} {b:Int} {y:Str} {p1 p2 p3:Pos} {k:Nat} {K:St→Prop} (hl:fmR l) (he:tabU ea=some (.tup [.int b,.str y]))
  (h:K (cV3 x [(ofString "index",.int i),(ofString "table",c),(ofString "bit",.int b),(ofString "char",.str y)] vs wd)):asg (gFn P n 85 sc85 [] []) (.Tuple [.Name (ofString "bit") p1,.Name (ofString "char") p2] k p3) (.val (.ref ea)) (cV3 x ((ofString "index",.int i)::(ofString "table",c)::l) vs wd) K:=by
 have e:∀ σ,bX7 (gFn P n 85 sc85 [] []) σ (.val (.ref ea))=some [.int b,.str y]:=fun σ=>by
  refine (?_:(tabU ea).bind AO.seq?=_);refine rwg (he ..) ?_;rfl
 refine (?_:aB4 _ _);refine aC (e _) ?_;refine (?_:aB4 _ _);rcases hl with rfl | ⟨c',d',rfl⟩
 ·exact h
 ·exact h
theorem bD7 {P:Params} {n:Nat} {base:List AO} {x:Int} {σ:St} {K:AV→St→Prop} (hK:K (.str (Txt.join (ofString "") (fmL x))) σ):aG6 (aF4 (aF8 P) (n + 2) base (.ref 85) [.int x] σ K):=by
 refine aN9 (in85 P) rfl rfl [] [(ofString "mode",.int x)] [] rfl rfl rfl rfl ?_;refine aH ?_;refine (?_:∃ _,_);refine (aM1 (fmI x σ.wd) (⟨[],[],rfl,rfl,.inl rfl⟩) (?_) (?_))
 ·rintro i σ1 c ⟨vs,l,hvs,rfl,hl⟩ hc;refine aY8 (aC2 _ _ _) ?_;intro X hX;have hlen:vs.length≤sizeLine:=by
   have h1:=aU hvs;have h2:((fmL x).take i).length≤10:=by refine rwg (length_take ..) ?_;exact Nat.min_le_right _ _
   refine rwg (sizeLine_eq ..) ?_;(clear hvs hl hc;lia)
  refine hide fun G_ k_=>?_;(refine bB1 (cY9 hc) ?_;intro a es row eo0 htab hrow hft hr10;subst eo0)
  refine k_ ?_;clear hc;have hfm:=cS3 x 0 i _ _ hft;rw [zero_add] at hfm;have hle:es.length≤sizeLine:=by (refine rwg (hrow.length ..) ?_;refine rwg (sizeLine_eq ..) ?_);(clear hvs hl hlen htab hft k_ hfm;lia)
  have hlt:=cO7 (G:=gFn P (n + 1) 85 sc85 [] []) htab;have htt:=cV (G:=gFn P (n + 1) 85 sc85 [] []) htab;refine cO3 hl fun l hl=>?_
  ·refine aJ3 (hlt _) ?_;refine aC (htt _) ?_;refine And.intro (by with_reducible assumption) ?_;refine (?_:∃ _,_);refine (bM6 (fmJ x i (.val (.ref a)) vs row σ.wd) ((aM1 (l) (hl) (rfl) (rfl))) (fun j σ2 u_=>htt _) (?_) (?_))
   ·rintro j σ2 c ⟨l2,hl2,rfl,hp⟩ hc;refine aY8 (aC2 _ _ _) ?_;intro Y hY;refine hide fun G_ k_=>?_;(refine bC8 (hrow.at_ hc) ?_;intro ea b y eo0 he hd;subst eo0)
    refine k_ ?_;clear hc;rw [hd] at hp;refine fm_asg hl2 he ?_;clear hl hl2;refine aA8 (fun hb400=>?_) (fun hb400=>?_)
    ·refine aA5 ?_;refine cH5 ?_;refine aA8 (fun hb401=>?_) (fun hb401=>?_)
     ·refine aA5 ?_;refine And.intro (by with_reducible assumption) ?_;apply hY;apply hX;exact again.here (bF5 hvs rfl fmR2 rfl (by (refine rwg (show fmL x=fmS x 0 fmT from rfl) ?_;refine rwg (hfm ..) ?_;refine rwg (hp ..) ?_);simp [aK,cX,fm0.mp hb400,hb401]))
     ·apply hY;exact again.here (aM1 (_) (fmR2) (rfl) (by refine rwg (hp ..) ?_;simp [aK,cX,fm0.mp hb400,hb401]))
    ·refine aA8 (fun hb402=>?_) (fun hb402=>?_)
     ·refine aA5 ?_;refine And.intro (by with_reducible assumption) ?_;apply hY;apply hX;exact again.here (bF5 hvs rfl fmR2 rfl (by (refine rwg (show fmL x=fmS x 0 fmT from rfl) ?_;refine rwg (hfm ..) ?_;refine rwg (hp ..) ?_);simp [aK,cX,bitC,fm1.mp hb400,hb402]))
     ·apply hY;exact again.here (aM1 (_) (fmR2) (rfl) (by refine rwg (hp ..) ?_;simp [aK,cX,bitC,fm1.mp hb400,hb402]))
   ·rintro σ2 ⟨l2,hl2,rfl,hp⟩;rw [show (Sq.l es).len=row.length from hrow.length,List.drop_length] at hp;refine aA8 (fun hb500=>?_) (fun hb500=>?_)
    ·refine aA5 ?_;refine And.intro (by with_reducible assumption) ?_;apply hX;exact again.here (bF5 hvs rfl hl2 rfl (by (refine rwg (show fmL x=fmS x 0 fmT from rfl) ?_;refine rwg (hfm ..) ?_;refine rwg (hp ..) ?_);simp [aK,fm0.mp hb500]))
    ·refine aA5 ?_;refine And.intro (by with_reducible assumption) ?_;apply hX;exact again.here (bF5 hvs rfl hl2 rfl (by (refine rwg (show fmL x=fmS x 0 fmT from rfl) ?_;refine rwg (hfm ..) ?_;refine rwg (hp ..) ?_);simp [aK,fm1.mp hb500]))
 ·rintro σ2 ⟨vs,l,hvs,rfl,hl⟩;have hvs:aD6 AV.str? vs=some (fmL x):=hvs;refine aA5 ?_;refine aC hvs ?_;refine And.intro (by exact fm_len x) ?_;exact aG3 rfl hK
noncomputable def bV7 (b:Int) (v:Str) (k:Int) (a A:Str):Str :=
 v++(if decide (3 < (b.fdiv (8 ^ k.toNat)).fmod 8)=true then ofString "r" else ofString "-")++(if ((((b.fdiv (8 ^ k.toNat)).fmod 8).fdiv 2).fmod 2==1)=true then ofString "w" else ofString "-") ++
  (if (((b.fdiv 512).fdiv (2 ^ k.toNat)).fmod 2==1)=true then (if (((b.fdiv (8 ^ k.toNat)).fmod 8).fmod 2==1)=true then a else A) else if (((b.fdiv (8 ^ k.toNat)).fmod 8).fmod 2==1)=true then ofString "x" else ofString "-")
noncomputable def sgM (k:Nat):Str:=if k=0 then ofString "t" else ofString "s"
noncomputable def sgU (k:Nat):Str:=if k=0 then ofString "T" else ofString "S"
noncomputable def sgT (b:Int):Nat→Str
 | 0=>bM2 (b.fdiv 4096)
 | i + 1=>bV7 b (sgT b i) (2 - i:Nat) (sgM (2 - i)) (sgU (2 - i))
noncomputable def aE6 (b:Int):Str:=sgT b 3
theorem upM {j:Nat}:Txt.upper (sgM j)=sgU j:=by
 by_cases h:j=0
 ·subst h;decide +kernel
 ·unfold sgM sgU;(refine rwg (if_neg h ..) ?_;refine rwg (if_neg h ..) ?_);decide +kernel
theorem bY1 {j:Nat} (h:j≤2):((8:Int) ^ (j:Int).toNat).natAbs < 2 ^ 30:=by
 rcases j with _ | _ | _ | j
 ·decide
 ·decide
 ·decide
 ·lia
theorem bX2 {j:Nat} (h:j≤2):((2:Int) ^ (j:Int).toNat).natAbs < 2 ^ 30:=by
 rcases j with _ | _ | _ | j
 ·decide
 ·decide
 ·decide
 ·omega
theorem cN4 {b k:Int} {v a A:Str} (ha:a.length≤1) (hA:A.length≤1):(bV7 b v k a A).length≤v.length + 3:=by
 have h (x:String) (h:(ofString x).length≤1:=by decide +kernel):=h;exact aD5 (n:=v.length + 1 + 1) (m:=1) (aD5 (n:=v.length + 1) (m:=1) (aD5 (m:=1) (le_refl _) (aM6 (h "r") (h "-"))) (aM6 (h "w") (h "-"))) (aM6 (aM6 ha hA) (aM6 (h "x") (h "-")))
theorem cF2 (n:Int):(bM2 n).length≤1:=by
 repeat' (first | refine aM6 (by decide +kernel) ?_)
 decide +kernel
theorem aE5 (k:Nat):(sgM k).length≤1:=aM6 (by decide +kernel) (by decide +kernel)
theorem aF1 (k:Nat):(sgU k).length≤1:=aM6 (by decide +kernel) (by decide +kernel)
theorem bO3 (b:Int):∀ i:Nat,(sgT b i).length≤3 * i + 1
 | 0=>cF2 _
 | i + 1=>by
  have h:=bO3 b i;have:=cN4 (b:=b) (k:=(2 - i:Nat)) (v:=sgT b i) (aE5 (2 - i)) (aF1 (2 - i));refine (?_:(bV7 _ _ _ _ _).length≤_);lia
noncomputable def sgO:List AO:=[.list [.int 2,.str (ofString "s")],.list [.int 1,.str (ofString "s")],.list [.int 0,.str (ofString "t")],.list [.obj 0,.obj 1,.obj 2]]
noncomputable def sgS (b:Int) (wd:Wd) (i:Nat):St:=⟨[(ofString "bits",.int b),(ofString "text",.str (sgT b i))],sgO,wd⟩
theorem sg_asg {P:Params} {n:Nat} {b:Int} {i:Nat} {c:AV} {wd:Wd} {p1 p2 p3:Pos} {k:Nat} {K:St→Prop} (hc:[AV.obj 0,.obj 1,.obj 2][i]?=some c)
  (h:i < 3→K ⟨[(ofString "bits",.int b),(ofString "text",.str (sgT b i)),(ofString "k",.int (2 - i:Nat)),(ofString "more",.str (sgM (2 - i)))],sgO,wd⟩):asg (gFn P n 163 cA9 [] []) (.Tuple [.Name (ofString "k") p1,.Name (ofString "more") p2] k p3) c (sgS b wd i) K:=by
 rcases i with _ | _ | _ | i
 ·obtain rfl:=Option.some.inj hc;exact h (by decide)
 ·obtain rfl:=Option.some.inj hc;exact h (by decide)
 ·obtain rfl:=Option.some.inj hc;exact h (by decide)
 ·exact absurd hc (by simp)
theorem bD4 {b:Int} {wd:Wd} {i:Nat} {t:Str} (h:t=sgT b (i + 1)):(⟨[(ofString "bits",.int b),(ofString "text",.str t)],sgO,wd⟩:St)=sgS b wd (i + 1):=by subst h;rfl
theorem bW0 {P:Params} {n:Nat} {base:List AO} {b:Int} {σ:St} {K:AV→St→Prop} (hK:K (.str (aE6 b)) σ):aG6 (aF4 (aF8 P) (n + 1) base (.ref 163) [.int b] σ K):=by
 refine aN9 (in163 P) rfl rfl [] [(ofString "bits",.int b)] [] rfl rfl rfl rfl ?_;refine (?_:_∧_);refine And.intro (by with_unfolding_all rfl) (Exists.intro b (And.intro rfl ?_));refine aC7 ?_;refine aC9 ?_;refine aC9 ?_;refine aC9 ?_;refine And.intro (by refine rwg (sizeLine_eq ..) ?_;decide) ?_;refine Exists.intro (fun i τ=>τ=sgS b σ.wd i) (And.intro rfl (And.intro ?_ (And.intro ?_ ?_)))
 ·rintro i σ2 rfl;rfl
 ·rintro i σ2 c rfl hc;refine sg_asg hc fun hi=>?_;generalize hj:2 - i=j;clear hc;have hj2:j≤2:=by (clear hi;omega)
  have h8:(8:Int) ^ (j:Int).toNat≠0∧Builtin.divisionGoesByPylong b (8 ^ (j:Int).toNat)=false:=⟨bR7 (by decide) _,PyProof.noPylong_small (bY1 hj2)⟩;have h2:(2:Int) ^ (j:Int).toNat≠0∧Builtin.divisionGoesByPylong (b.fdiv 512) (2 ^ (j:Int).toNat)=false:=⟨bR7 (by decide) _,PyProof.noPylong_small (bX2 hj2)⟩;have hlen:(sgT b i).length≤20:=by have:=bO3 b i;(clear hj hj2 h8 h2;lia)
  have lr:(ofString "r").length≤1:=by decide +kernel
  have lw:(ofString "w").length≤1:=by decide +kernel
  have lx:(ofString "x").length≤1:=by decide +kernel
  have ld:(ofString "-").length≤1:=by decide +kernel
  have hup:(sgM j).length≤5592405:=le_trans (aE5 j) (by decide);refine and4 (by exact ⟨by (clear hi hj hj2 h8 h2 hlen lr lw lx ld hup;lia),by lia,by decide⟩) (by with_reducible assumption) (by decide) (by decide) ?_;refine aA8 (fun hb300=>?_) (fun hb300=>?_)
  ·refine and8 (by with_reducible apply cB5;(case ha=>repeat (first | exact hlen | exact lr | exact lw | exact lx | exact ld | exact aE5 _ | exact aF1 _ | with_reducible apply aF9 | with_reducible apply aD5));(case hb=>repeat (first | exact hlen | exact lr | exact lw | exact lx | exact ld | exact aE5 _ | exact aF1 _ | with_reducible apply aF9 | with_reducible apply aD5));(case h=>refine rwg (sizeLine_eq ..) ?_;decide);done) (by exact ⟨by decide,PyProof.noPylong_small (by decide)⟩) (by decide) (by with_reducible apply cB5;(case ha=>repeat (first | exact hlen | exact lr | exact lw | exact lx | exact ld | exact aE5 _ | exact aF1 _ | with_reducible apply aF9 | with_reducible apply aD5));(case hb=>repeat (first | exact hlen | exact lr | exact lw | exact lx | exact ld | exact aE5 _ | exact aF1 _ | with_reducible apply aF9 | with_reducible apply aD5));(case h=>refine rwg (sizeLine_eq ..) ?_;decide);done) (by exact ⟨by decide,PyProof.noPylong_small (by decide)⟩) (by exact ⟨by omega,by omega,by decide⟩) (by with_reducible assumption) (by decide) ?_;refine aA8 (fun hb301=>?_) (fun hb301=>?_)
   ·refine And.intro (by with_reducible apply cB5;(case ha=>repeat (first | exact hlen | exact lr | exact lw | exact lx | exact ld | exact aE5 _ | exact aF1 _ | with_reducible apply aF9 | with_reducible apply aD5));(case hb=>repeat (first | exact hlen | exact lr | exact lw | exact lx | exact ld | exact aE5 _ | exact aF1 _ | with_reducible apply aF9 | with_reducible apply aD5));(case h=>refine rwg (sizeLine_eq ..) ?_;decide);done) ?_;conv=>whnf
    refine again.ren [ofString "bits",ofString "text"] [] _ rfl rfl (bD4 ?_);clear h8 h2 hlen lr lw lx ld hj2 hi hK;simp only [sgT,bV7, *,if_true,Bool.false_eq_true,if_false]
   ·refine aM4 (by decide) (by with_reducible apply cB5;(case ha=>repeat (first | exact hlen | exact lr | exact lw | exact lx | exact ld | exact aE5 _ | exact aF1 _ | with_reducible apply aF9 | with_reducible apply aD5));(case hb=>repeat (first | exact hlen | exact lr | exact lw | exact lx | exact ld | exact aE5 _ | exact aF1 _ | with_reducible apply aF9 | with_reducible apply aD5));(case h=>refine rwg (sizeLine_eq ..) ?_;decide);done) ?_;conv=>whnf
    refine again.ren [ofString "bits",ofString "text"] [] _ rfl rfl (bD4 ?_);clear h8 h2 hlen lr lw lx ld hj2 hi hK;simp only [sgT,bV7, *,if_true,Bool.false_eq_true,if_false]
  ·refine aH ?_;refine And.intro (by with_reducible assumption) ?_;refine rwg (upM ..) ?_;refine and8 (by with_reducible apply cB5;(case ha=>repeat (first | exact hlen | exact lr | exact lw | exact lx | exact ld | exact aE5 _ | exact aF1 _ | with_reducible apply aF9 | with_reducible apply aD5));(case hb=>repeat (first | exact hlen | exact lr | exact lw | exact lx | exact ld | exact aE5 _ | exact aF1 _ | with_reducible apply aF9 | with_reducible apply aD5));(case h=>refine rwg (sizeLine_eq ..) ?_;decide);done) (by exact ⟨by decide,PyProof.noPylong_small (by decide)⟩) (by decide) (by with_reducible apply cB5;(case ha=>repeat (first | exact hlen | exact lr | exact lw | exact lx | exact ld | exact aE5 _ | exact aF1 _ | with_reducible apply aF9 | with_reducible apply aD5));(case hb=>repeat (first | exact hlen | exact lr | exact lw | exact lx | exact ld | exact aE5 _ | exact aF1 _ | with_reducible apply aF9 | with_reducible apply aD5));(case h=>refine rwg (sizeLine_eq ..) ?_;decide);done) (by exact ⟨by decide,PyProof.noPylong_small (by decide)⟩) (by exact ⟨by omega,by omega,by decide⟩) (by with_reducible assumption) (by decide) ?_;refine aA8 (fun hb302=>?_) (fun hb302=>?_)
   ·refine And.intro (by with_reducible apply cB5;(case ha=>repeat (first | exact hlen | exact lr | exact lw | exact lx | exact ld | exact aE5 _ | exact aF1 _ | with_reducible apply aF9 | with_reducible apply aD5));(case hb=>repeat (first | exact hlen | exact lr | exact lw | exact lx | exact ld | exact aE5 _ | exact aF1 _ | with_reducible apply aF9 | with_reducible apply aD5));(case h=>refine rwg (sizeLine_eq ..) ?_;decide);done) ?_;conv=>whnf
    refine again.ren [ofString "bits",ofString "text"] [] _ rfl rfl (bD4 ?_);clear h8 h2 hlen lr lw lx ld hj2 hi hK;simp only [sgT,bV7, *,if_true,Bool.false_eq_true,if_false]
   ·refine aM4 (by decide) (by with_reducible apply cB5;(case ha=>repeat (first | exact hlen | exact lr | exact lw | exact lx | exact ld | exact aE5 _ | exact aF1 _ | with_reducible apply aF9 | with_reducible apply aD5));(case hb=>repeat (first | exact hlen | exact lr | exact lw | exact lx | exact ld | exact aE5 _ | exact aF1 _ | with_reducible apply aF9 | with_reducible apply aD5));(case h=>refine rwg (sizeLine_eq ..) ?_;decide);done) ?_;conv=>whnf
    refine again.ren [ofString "bits",ofString "text"] [] _ rfl rfl (bD4 ?_);clear h8 h2 hlen lr lw lx ld hj2 hi hK;simp only [sgT,bV7, *,if_true,Bool.false_eq_true,if_false]
 ·rintro σ2 rfl;exact aG3 rfl hK
noncomputable def aJ8 (sg so:Str) (bd:Bool) (ns:List Int):List Int:=(ns.filter fun n=>decide (n < (sg.length:Int)) && (Txt.contains so (Txt.item sg n) != bd)).map (· + 1)
theorem bV2 (sg so:Str) (bd:Bool) (ns:List Int) (i:Nat) (hi:i < ns.length) :
  aJ8 sg so bd (ns.take (i + 1))=aJ8 sg so bd (ns.take i)++(if (decide (ns[i] < (sg.length:Int)) && (Txt.contains so (Txt.item sg ns[i]) != bd))=true then [ns[i] + 1] else []):=by
 unfold aJ8;(refine rwg (take_succ_eq_append_getElem hi ..) ?_;refine rwg (List.filter_append ..) ?_;refine rwg (map_append ..) ?_)
 congr 1
 simp only [List.filter_cons,List.filter_nil]
 split<;>simp_all
noncomputable def spO (sg so:Str) (bd:Bool):List AO:=[.cell (some (.bool bd)),.cell (some (.str so)),.cell (some (.str sg))]
theorem aE2 {P:Params} {n:Nat} {base:List AO} {sg so:Str} {bd:Bool} {a:AV} {ns:List Int} {σ:St} {K:AV→St→Prop} (h0:sg.length≤100) (hn:ns.length≤100) (hp:∀ n∈ns,0≤n)
  (ha:aY9 (gB base (aF8 P).tab (aF8 P).W) σ a=some (.list (ns.map .int))) (hK:σ.mkK (.list ((aJ8 sg so bd ns).map .int)) fun k=>K (.obj k)):aG6 (aF4 (aF8 P) (n + 1) base (.ref 180) [.str sg,a,.str so,.bool bd] σ K):=by
 refine aL1 (in180 P) rfl rfl [(a,.list (ns.map .int))] [.str sg,.par 0,.str so,.bool bd] [(ofString "barred",0),(ofString "some",1),(ofString "signs",2)] [.list (ns.map .int)] [(ofString "places",.par 0)] (spO sg so bd) rfl ?_ rfl rfl rfl rfl ?_
 ·intro p hp;obtain rfl:=mem_singleton.mp hp;exact (aA0 (_) (ha) (by refine (?_:Option.map _ (List.mapM _ _)=_);refine rwg (aQ5 (aB6 _) ..) ?_;rfl))
 refine And.intro (by (refine rwg (length_map ..) ?_;refine rwg (sizeLine_eq ..) ?_);(clear h0 ha;lia)) ?_;refine (?_:∃ _,_);refine aP0 (σ:=⟨[(ofString "places",.par 0)],spO sg so bd,σ.wd⟩) (fun i=>(aJ8 sg so bd (ns.take i)).map .int) rfl ?_ ?_ ?_
 ·exact rfl
 ·intro i c T hT hc;have hc:(ns.map AV.int)[i]?=some c:=hc;rw [getElem?_map] at hc;(refine aB9 hc ?_;intro n hn eo0;clear hc;subst eo0)
  (refine aH5 hn ?_;intro hin hni)
  have hst:=bV2 sg so bd ns i hin;rw [hni] at hst;have hn0:0≤n:=hp n (hni▸getElem_mem hin);refine aA5 ?_;refine And.intro (by (clear ha hn hc hin hni hst hn0;lia)) ?_;refine aA8 (fun hb200=>?_) (fun hb200=>?_)
  ·refine And.intro (by exact ⟨by (clear h0 ha hn hc hin hni hst hb200;lia),of_decide_eq_true hb200,by omega⟩) ?_;refine aA8 (fun hb201=>?_) (fun hb201=>?_)
   ·refine hT _ ?_;conv=>whnf
    (refine rwg (hst ..) ?_;refine rwg (if_pos (by rw [hb200,bne,← bW4,hb201];rfl) ..) ?_;refine rwg (map_append ..) ?_);rfl
   ·refine hT _ ?_;conv=>whnf
    (refine rwg (hst ..) ?_;refine rwg (if_neg (by rw [hb200,bne,← bW4,hb201];decide) ..) ?_;refine rwg (append_nil ..) ?_);rfl
  ·refine hT _ ?_;conv=>whnf
   (refine rwg (hst ..) ?_;refine rwg (if_neg (by rw [hb200];exact Bool.false_ne_true) ..) ?_;refine rwg (append_nil ..) ?_);rfl
 ·refine cA8 rfl (aB6 _) ?_;(refine rwg (show (ns.take (Sq.l (ns.map AV.int)).len)=ns by refine (?_:ns.take (ns.map AV.int).length=_);rw [length_map,take_length]) ?_)
  exact aJ hK
structure Item where
 text:Str
 some:Str
 barred:Bool
noncomputable def aO8 (it:Item):AO:=.list [.str it.text,.str it.some,.bool it.barred]
noncomputable def aJ2 (a b:Int):List Int:=rangeInts a 1 (b - a).toNat
theorem bU7 {a b z:Int} (h:z∈aJ2 a b):a≤z∧z < b:=by
 (refine aA6 h ?_;intro i hi eo0;clear h;subst eo0)
 have:=List.mem_range.mp hi;lia
theorem bG1 (a b:Int):(aJ2 a b).length=(b - a).toNat:=by simp [aJ2,rangeInts]
theorem cJ0 {sg so:Str} {bd:Bool} {ns:List Int} {z:Int} (h:z∈aJ8 sg so bd ns) (hn:∀ n∈ns,0≤n):0≤z∧z≤(sg.length:Int):=by
 (refine aA6 h ?_;intro n hm eo0;clear h;subst eo0)
 (refine aE8 (List.mem_filter.mp hm) ?_;intro h1 h2)
 have:=hn n h1;simp only [Bool.and_eq_true,decide_eq_true_eq] at h2
 lia
theorem bI1 (sg so:Str) (bd:Bool) (ns:List Int):(aJ8 sg so bd ns).length≤ns.length:=by
 refine rwg (length_map ..) ?_;exact List.length_filter_le _ _
structure Pl (sg:Str) (zs:List Int):Prop where
 len:zs.length≤sg.length + 1
 mem:∀ z∈zs,0≤z∧z≤(sg.length:Int)
theorem Pl.range {sg:Str} {z:Int} {r:List Int} (h:Pl sg (z::r)):Pl sg (aJ2 z (sg.length + 1)):=by
 have:=h.mem z (.head _);exact ⟨by refine rwg (bG1 ..) ?_;omega,fun y hy=>by have:=bU7 hy;omega⟩
theorem Pl.step {sg:Str} {zs:List Int} (h:Pl sg zs) (so:Str) (bd:Bool):Pl sg (aJ8 sg so bd zs) :=
 ⟨le_trans (bI1 ..) h.len,fun z hz=>cJ0 hz fun n hn=>(h.mem n hn).1⟩
theorem Pl.zero (sg:Str):Pl sg [0]:=⟨by refine (?_:1≤_);lia,fun z hz=>by obtain rfl:=mem_singleton.mp hz;lia⟩
noncomputable def aC4 (sg:Str) (zs:List Int) (it:Item):List Int :=
 match zs with
 | []=>[]
 | z::r=>if it.text==ofString "*" then aJ2 z (sg.length + 1) else aJ8 sg it.some it.barred (z::r)
noncomputable def aN7 (sg:Str) (its:List Item):List Int:=its.foldl (aC4 sg) [0]
theorem bU2 {sg:Str}:∀ {its:List Item} {zs:List Int},Pl sg zs→Pl sg (its.foldl (aC4 sg) zs)
 | [],_,h=>h
 | it::r,zs,h=>by
  refine bU2 (its:=r) ?_;cases zs with
  | nil=>exact h
  | cons z zs =>
   show Pl sg (if _ then _ else _)
   split
   ·exact h.range
   ·exact h.step _ _
noncomputable def itPb (a:AV) (bs:List AV) (its:List Item):List (AV × AO):=(a,.list ((List.range its.length).map fun j=>.par (j + 1)))::bs.zip (its.map aO8)
theorem cW0 {G:Gx} {σ:St} {a:AV} {bs:List AV} {its:List Item} (hl:bs.length=its.length) (ha:aY9 G σ a=some (.list bs)) (hb:∀ (i:Nat) b it,bs[i]?=some b→its[i]?=some it→aY9 G σ b=some (aO8 it)) :
  ∀ p∈itPb a bs its,∃ ao,aY9 G σ p.1=some ao∧upO (itPb a bs its) p.2=some ao:=by
 intro p hp;rcases mem_cons.mp hp with rfl | hp
 ·refine (aA0 (_) (ha) (?_));refine (?_:Option.map _ (List.mapM _ _)=_);rw [bN2 (r:=bs) (by (refine rwg (length_map ..) ?_;refine rwg (length_range ..) ?_;refine rwg (hl ..) ?_;rfl)) fun i x y hx hy=>?_];rfl
  have hi:i < its.length:=hl▸(List.getElem?_eq_some_iff.mp hy).1;rw [getElem?_map,List.getElem?_range hi] at hx;obtain rfl:=Option.some.inj hx;refine (?_:Option.map _ ((bs.zip (its.map aO8))[i]?)=_);have hz:(bs.zip (its.map aO8))[i]?=some (y,aO8 its[i]):=List.getElem?_zip_eq_some.mpr ⟨hy,by (refine rwg (getElem?_map ..) ?_;refine rwg (getElem?_eq_getElem hi ..) ?_);rfl⟩;refine rwg (hz ..) ?_;rfl
 ·refine hide fun G_ k_=>?_;(refine aJ9 (getElem?_of_mem hp) ?_;intro i hi)
  (refine aE8 (List.getElem?_zip_eq_some.mp hi) ?_;intro h1 h2)
  rw [getElem?_map] at h2;(refine aB9 h2 ?_;intro it h3 h4)
  refine k_ ?_;exact (aA0 (_) (hb i _ it h1 h3) (by refine rwb (h4 ..) ?_;rfl))
theorem cD2 {a:AV} {bs:List AV} {its:List Item} (hl:bs.length=its.length):(itPb a bs its).map (·.2)=.list ((List.range its.length).map fun j=>.par (j + 1))::its.map aO8:=by
 refine (?_:_::(bs.zip (its.map aO8)).map Prod.snd=_);(refine rwg (List.map_snd_zip (by rw [length_map,hl];exact le_refl _) ..) ?_;rfl)
noncomputable def meSt (sg:Str) (zs:List Int) (wd:Wd) (b:Bool):St:=⟨[(ofString "items",.par 0),(ofString "signs",.str sg),(ofString "places",.obj (if b then 1 else 0))],.list [.int 0]::(if b then [.list (zs.map .int)] else []),wd⟩
theorem aS4 {sg:Str} {z:Int} {r:List Int} {it:Item} (h:(it.text==ofString "*")=true):aC4 sg (z::r) it=aJ2 z (sg.length + 1):=by
 show (if _ then _ else _)=_
 (refine rwg (if_pos h ..) ?_;rfl)
theorem aT4 {sg:Str} {z:Int} {r:List Int} {it:Item} (h:(it.text==ofString "*")=false):aC4 sg (z::r) it=aJ8 sg it.some it.barred (z::r):=by
 show (if _ then _ else _)=_
 (refine rwg (if_neg (by rw [h];exact Bool.false_ne_true) ..) ?_;rfl)
noncomputable def meK:List Str:=[ofString "items",ofString "signs",ofString "places"]
theorem aV5 {sg:Str} {zs ys:List Int} {wd:Wd} (h:ys=zs):(⟨[(ofString "items",.par 0),(ofString "signs",.str sg),(ofString "places",.obj 1)],[.list [.int 0],.list (zs.map .int)],wd⟩:St)=meSt sg ys wd true:=by subst h;rfl
theorem aS0 {P:Params} {n:Nat} {base:List AO} {sg:Str} {a:AV} {bs:List AV} {its:List Item} {σ:St} {K:AV→St→Prop} (h0:sg.length≤90) (hl:bs.length=its.length) (hn:its.length≤8)
  (ha:aY9 (gB base (aF8 P).tab (aF8 P).W) σ a=some (.list bs)) (hb:∀ (i:Nat) b it,bs[i]?=some b→its[i]?=some it→aY9 (gB base (aF8 P).tab (aF8 P).W) σ b=some (aO8 it)) (hK:K (.bool ((aN7 sg its).any fun x=>x==(sg.length:Int))) σ):aG6 (aF4 (aF8 P) (n + 2) base (.ref 187) [a,.str sg] σ K):=by
 refine aL1 (in187 P) rfl rfl (itPb a bs its) [.par 0,.str sg] [] _ [(ofString "items",.par 0),(ofString "signs",.str sg)] [] rfl (cW0 hl ha hb) rfl (cD2 hl) rfl rfl ?_;refine aA5 ?_;refine ⟨by rw [length_map,length_range,sizeLine_eq];(clear h0 hl ha;lia),fun i τ=>Pl sg ((its.take i).foldl (aC4 sg) [0])∧((i=0∧τ=meSt sg [0] σ.wd false)∨τ=meSt sg ((its.take i).foldl (aC4 sg) [0]) σ.wd true),⟨.zero sg,.inl ⟨rfl,rfl⟩⟩,?_,?_,?_⟩
 ·rintro i σ2 ⟨_,⟨_,rfl⟩ | rfl⟩<;>rfl
 ·rintro i σ2 c ⟨hpl,hI⟩ hc;have hc:((List.range its.length).map fun j=>AV.par (j + 1))[i]?=some c:=hc;replace hc:=(getElem?_map ..)▸hc;(refine aB9 hc ?_;intro j hj eo0;subst eo0)
  (refine aH5 hj ?_;intro hin hji)
  replace hin:=(length_range ..)▸hin;replace hji:=(List.getElem_range ..)▸hji;subst hji;have hsq:∀ τ,bX7 (gFn P (n + 1) 187 sc187 [] (.list ((List.range its.length).map fun j=>.par (j + 1))::its.map aO8)) τ (.par (i + 1))=some [.str its[i].text,.str its[i].some,.bool its[i].barred]:=fun τ=>by
   refine (?_:((its.map aO8)[i]?).bind AO.seq?=_);rw [getElem?_map,getElem?_eq_getElem hin];rfl
  have hfold:(its.take (i + 1)).foldl (aC4 sg) [0]=aC4 sg ((its.take i).foldl (aC4 sg) [0]) its[i]:=by rw [take_succ_eq_append_getElem hin,foldl_append];rfl
  have hpl2:Pl sg ((its.take (i + 1)).foldl (aC4 sg) [0]):=bU2 (.zero sg);simp only [hfold] at hpl2 ⊢
  clear hfold;rcases hI with ⟨hi0,rfl⟩ | rfl
  ·have e:(its.take i).foldl (aC4 sg) [0]=[0]:=by rw [hi0];rfl
   rw [e] at hpl2 hpl ⊢;generalize its[i]=it at *;refine aY8 (aC2 _ _ _) ?_;intro X hX;have hai:=aI0 [0];have hix:-(([AV.int 0].length:Nat):Int)≤0∧(0:Int) < ([AV.int 0].length:Nat)∧[AV.int 0].length≤16777216:=by decide
   refine (?_:aB4 _ _);refine aC (hsq _) ?_;refine aH ?_;refine aA8 (fun hb100=>?_) (fun hb100=>?_)
   ·refine aA5 ?_;refine aC9 ?_;refine And.intro (by with_reducible assumption) ?_;refine aA5 ?_;refine aM4 (by (clear hl hn ha hin hj hc hi0 e hai hix hb100;lia)) (by dsimp only;exact ⟨bB9 (by (clear h0 hl hn ha hin hj hc hi0 e hai hix hb100;lia)) (by (clear h0 hl hn ha hin hj hc hi0 e hai hix hb100;lia)) (by (clear h0 hl hn ha hin hj hc hi0 e hai hix hb100;lia)) (by (clear hl hn ha hin hj hc hi0 e hai hix hb100;lia)),by (clear hl hn ha hin hj hc hi0 e hai hix hb100;lia)⟩) ?_;apply hX;apply aB0 meK [3];(case h=>rfl);(case hl=>rfl);(case hp=>rfl);(case ho=>repeat (first | exact .nil | (apply RenOs.cons;(case h=>first | exact aA2 (aB6 _) | exact aA2 rfl | rfl))));(case hJ=>exact ⟨hpl2,.inr (aV5 (aS4 hb100))⟩)
   ·refine aH7 ?_;refine aE2 (ns:=[0]) (le_trans h0 (by decide)) (by decide) (fun y hy=>(hpl.mem y hy).1) rfl ?_;apply hX;apply aB0 meK [2];(case h=>rfl);(case hl=>rfl);(case hp=>rfl);(case ho=>repeat (first | exact .nil | (apply RenOs.cons;(case h=>first | exact aA2 (aB6 _) | exact aA2 rfl | rfl))));(case hJ=>exact ⟨hpl2,.inr (aV5 (aT4 hb100))⟩)
  ·generalize (its.take i).foldl (aC4 sg) [0]=zs at *;generalize its[i]=it at *;refine aY8 (aC2 _ _ _) ?_;intro X hX;rcases zs with _ | ⟨z,r⟩
   ·refine (?_:aB4 _ _);refine aC (hsq _) ?_;refine aH ?_;apply hX;apply aB0 meK [1];(case h=>rfl);(case hl=>rfl);(case hp=>rfl);(case ho=>repeat (first | exact .nil | (apply RenOs.cons;(case h=>first | exact aA2 (aB6 _) | exact aA2 rfl | rfl))));(case hJ=>exact ⟨hpl2,.inr (aV5 (zs:=[]) rfl)⟩)
   ·have hz:=hpl.mem z (.head _);have hai:=aI0 (z::r);have hix:-(((List.map AV.int (z::r)).length:Nat):Int)≤0∧(0:Int) < ((List.map AV.int (z::r)).length:Nat)∧(List.map AV.int (z::r)).length≤16777216:=by
     have:=hpl.len;rw [length_map];rw [length_cons] at this ⊢;lia
    refine (?_:aB4 _ _);refine aC (hsq _) ?_;refine aH ?_;refine aC hai ?_;refine aA8 (fun hb300=>?_) (fun hb300=>?_)
    ·refine aA5 ?_;refine aC9 ?_;refine And.intro (by with_reducible assumption) ?_;refine aA5 ?_;refine aM4 (by (clear hl hn ha hin hj hc hz hai hix hb300;lia)) (by dsimp only;exact ⟨bB9 (by (clear h0 hl hn ha hin hj hc hai hix hb300;lia)) (by (clear hl hn ha hin hj hc hai hix hb300;lia)) (by (clear h0 hl hn ha hin hj hc hz hai hix hb300;lia)) (by (clear hl hn ha hin hj hc hz hai hix hb300;lia)),by (clear hl hn ha hin hj hc hai hix hb300;lia)⟩) ?_;apply hX;apply aB0 meK [4];(case h=>rfl);(case hl=>rfl);(case hp=>rfl);(case ho=>repeat (first | exact .nil | (apply RenOs.cons;(case h=>first | exact aA2 (aB6 _) | exact aA2 rfl | rfl))));(case hJ=>exact ⟨hpl2,.inr (aV5 (aS4 hb300))⟩)
    ·refine aH7 ?_;refine aE2 (ns:=z::r) (le_trans h0 (by decide)) (by have:=hpl.len;(clear hl hn ha hin hj hc hz hai hix hb300;lia)) (fun y hy=>(hpl.mem y hy).1) rfl ?_;apply hX;apply aB0 meK [3];(case h=>rfl);(case hl=>rfl);(case hp=>rfl);(case ho=>repeat (first | exact .nil | (apply RenOs.cons;(case h=>first | exact aA2 (aB6 _) | exact aA2 rfl | rfl))));(case hJ=>exact ⟨hpl2,.inr (aV5 (aT4 hb300))⟩)
 ·rintro σ2 ⟨hpl,hI⟩;have ht:its.take (Sq.l ((List.range its.length).map fun j=>AV.par (j + 1))).len=its:=by
   refine (?_:its.take ((List.range its.length).map fun j=>AV.par (j + 1)).length=_);(refine rwg (length_map ..) ?_;refine rwg (length_range ..) ?_;refine rwg (take_length ..) ?_;rfl)
  rw [ht] at hI hpl;have hpl:Pl sg (aN7 sg its):=hpl;rcases hI with ⟨h,rfl⟩ | rfl
  ·have:its=[]:=by
    refine rwb (ht ..) ?_;refine rwg (h ..) ?_;rfl
   clear hb;subst this;refine aA5 ?_;refine And.intro (by (clear ha hl hn ht h;lia)) ?_;exact aG3 rfl (by refine rwg (bU ..) ?_;exact hK)
  ·have e:its.foldl (aC4 sg) [0]=aN7 sg its:=rfl;refine rwg (e ..) ?_;generalize aN7 sg its=zs at *;have hai:=aI0 zs;refine aA5 ?_;refine And.intro (by (clear hl hn ha ht e hai;lia)) ?_;refine aC hai ?_;exact aG3 rfl (by refine rwg (bU ..) ?_;exact hK)
noncomputable def cL3 (x:Int) (k:Nat):Nat:=(((x.fdiv 6).fdiv (12 ^ k)).fmod 12).toNat
noncomputable def itemsTable:List Item:=[⟨"*","",false⟩,⟨"?","",true⟩,⟨"r","r",false⟩,⟨"w","w",false⟩,⟨"x","x",false⟩,⟨"-","-",false⟩,⟨"[st]","st",false⟩,⟨"[!-]","-",true⟩,⟨"d","d",false⟩,
 ⟨"[r-x]","rstuvwx",false⟩,⟨"[x-r]","",false⟩,⟨"[!x-r]","",true⟩]
noncomputable def aC1 (x:Int):List Nat:=((List.range (1 + x.fmod 3 - 0).toNat).map fun k=>cL3 x k)++(if ((x.fdiv 3).fmod 2==1)=true then [0] else [])
noncomputable def itN (k:Nat):Nat:=if k < 5 then k + 2 else if k < 9 then k + 3 else k + 5
noncomputable def itAll:List AV:=[.obj 2,.obj 3,.obj 4,.obj 5,.obj 6,.obj 8,.obj 9,.obj 10,.obj 11,.obj 14,.obj 15,.obj 16]
theorem it_get {d:Int} (h:0≤d) (h':d < 12):itAll[(if d < 0 then d + (itAll.length:Nat) else d).toNat]?=some (.obj (itN d.toNat)):=by
 refine rwg (if_neg (by (clear h';lia)) ..) ?_;(refine aJ9 (Int.eq_ofNat_of_zero_le h) ?_;intro k eo0;subst eo0)
 refine rwg (Int.toNat_natCast ..) ?_;have hk:k < 12:=by (clear h;lia)
 rcases k with _ | _ | _ | _ | _ | _ | _ | _ | _ | _ | _ | _ | k
 all_goals first | rfl | (exfalso;lia)
noncomputable def itO (x:Int):List AO:=[.cell (some (.obj 18)),.cell (some (.int x)),.list [.str "*",.str "",.bool false],.list [.str "?",.str "",.bool true],.list [.str "r",.str "r",.bool false],.list [.str "w",.str "w",.bool false],.list [.str "x",.str "x",.bool false],.list (itAll.take 5),
 .list [.str "-",.str "-",.bool false],.list [.str "[st]",.str "st",.bool false],.list [.str "[!-]",.str "-",.bool true],.list [.str "d",.str "d",.bool false],.list ((itAll.drop 5).take 4),.list (itAll.take 9),
 .list [.str "[r-x]",.str "rstuvwx",.bool false],.list [.str "[x-r]",.str "",.bool false],.list [.str "[!x-r]",.str "",.bool true],.list (itAll.drop 9),.list itAll,.rng 0 (1 + x.fmod 3) 1]
noncomputable def itS1 (x:Int) (wd:Wd):St:=⟨[],itO x,wd⟩
noncomputable def itY (x:Int) (i:Nat):List AV:=(List.range i).map fun k=>.obj (itN (cL3 x k))
noncomputable def itS2 (x:Int) (wd:Wd) (n:Nat):St:=⟨[],itO x++[.list (itY x n),.list [.int ((x.fdiv 3).fmod 2)]],wd⟩
theorem bP {j:Nat} (h:j≤2):((12:Int) ^ (j:Int).toNat).natAbs < 2 ^ 30:=by
 rcases j with _ | _ | _ | j
 ·decide
 ·decide
 ·decide
 ·lia
theorem cK0 (x:Int) (i:Nat):itY x (i + 1)=itY x i++[.obj (itN (cL3 x i))]:=by
 unfold itY;(refine rwg (range_succ ..) ?_;refine rwg (map_append ..) ?_);rfl
theorem aI4 (x:Int):∀ k∈aC1 x,k < 12:=by
 intro k hk;rcases mem_append.mp hk with h | h
 ·(refine aA6 h ?_;intro j _ eo0;clear hk h;subst eo0)
  have h1:=Int.fmod_nonneg_of_pos ((x.fdiv 6).fdiv (12 ^ j)) (show (0:Int) < 12 by decide);have h2:=Int.fmod_lt_of_pos ((x.fdiv 6).fdiv (12 ^ j)) (show (0:Int) < 12 by decide);unfold cL3;(clear h1;omega)
 ·split at h
  ·clear hk;obtain rfl:=mem_singleton.mp h;decide
  ·cases h
theorem aG7 (x:Int):(aC1 x).length≤4:=by
 have h:=Int.fmod_lt_of_pos x (show (0:Int) < 3 by decide);(refine rwg (List.length_append ..) ?_;refine rwg (length_map ..) ?_;refine rwg (length_range ..) ?_)
 split<;>simp only [length_cons,length_nil]<;>omega
noncomputable def cO2:List Nat:=[2,3,4,5,6,8,9,10,11,14,15,16,23]
theorem dB2 {k:Nat} (h:k < 12):bD6 0 cO2 (.obj (itN k))=some (.obj k):=by
 rcases k with _ | _ | _ | _ | _ | _ | _ | _ | _ | _ | _ | _ | k
 all_goals first | rfl | (exfalso;lia)
theorem it_ren (x:Int):bK6 0 cO2 (.list ((aC1 x).map fun k=>.obj (itN k)))=some (.list ((aC1 x).map .obj)):=by
 refine (?_:Option.map _ (List.mapM _ _)=_);refine rwg (aL9 fun k hk=>dB2 (aI4 x k hk) ..) ?_;rfl
theorem it_dn {x:Int} {n:Nat}:dnO [] n (.list ((aC1 x).map .obj))=some (.list ((aC1 x).map fun k=>.obj (n + k))):=by
 refine (?_:Option.map _ (List.mapM _ _)=_);refine rwg (aL9 (f:=dn [] n) (g:=AV.obj) (k:=fun k=>.obj (n + k)) fun k u_=>rfl ..) ?_;rfl
theorem bX0 {P:Params} {n:Nat} {base:List AO} {x:Int} {σ:St} {K:AV→St→Prop} (hK:K (.obj (σ.obj.length + 12)) ⟨σ.loc,σ.obj++(itemsTable.map aO8++[.list ((aC1 x).map fun k=>.obj (σ.obj.length + k))]),σ.wd⟩):aG6 (aF4 (aF8 P) (n + 1) base (.ref 156) [.int x] σ K):=by
 refine aN9 (in156 P) rfl rfl [(ofString "items",0),(ofString "x",1)] [] [.cell none,.cell (some (.int x))] rfl rfl rfl rfl ?_;have h3:0≤x.fmod 3:=Int.fmod_nonneg_of_pos x (by decide);have h3':x.fmod 3 < 3:=Int.fmod_lt_of_pos x (by decide);refine aZ0 ?_;refine aC7 ?_;refine aH7 ?_;refine aC7 ?_;refine aC7 ?_;refine aC7 ?_;refine aC7 ?_;refine aH7 ?_;refine aC7 ?_;refine aC7 ?_;refine aC7 ?_;refine aC7 ?_;refine And.intro (by exact aN5 rfl) ?_;refine aC7 ?_;refine aC7 ?_;refine aC7 ?_;refine aC7 ?_;refine And.intro (by exact aN5 rfl) ?_;refine aA5 ?_;refine aM4 (by decide) (by dsimp only;exact ⟨bB9 (by (clear h3 h3';lia)) (by (clear h3 h3';lia)) (by (clear h3';omega)) (by lia),by rw [sizeLine_eq];lia⟩) ?_;refine (?_:∃ _,_);refine aP0 (σ:=itS1 x σ.wd) (fun i=>itY x i) rfl ?_ ?_ ?_
 ·exact trivial
 ·rintro i c T hT ⟨hi,rfl⟩;have hi:i < (1 + x.fmod 3 - 0).toNat:=hi;have hi2:i≤2:=by omega
  have h12:(12:Int) ^ (0 + (i:Int)).toNat≠0∧Builtin.divisionGoesByPylong (x.fdiv 6) (12 ^ (0 + (i:Int)).toNat)=false:=by
   rw [Int.zero_add];exact ⟨bR7 (by decide) _,PyProof.noPylong_small (bP hi2)⟩
  have hd:0≤((x.fdiv 6).fdiv (12 ^ (0 + (i:Int)).toNat)).fmod 12∧((x.fdiv 6).fdiv (12 ^ (0 + (i:Int)).toNat)).fmod 12 < 12:=⟨Int.fmod_nonneg_of_pos _ (by decide),Int.fmod_lt_of_pos _ (by decide)⟩;have hget:=it_get hd.1 hd.2;have hix:-((itAll.length:Nat):Int)≤((x.fdiv 6).fdiv (12 ^ (0 + (i:Int)).toNat)).fmod 12∧((x.fdiv 6).fdiv (12 ^ (0 + (i:Int)).toNat)).fmod 12 < ((itAll.length:Nat):Int)∧itAll.length≤16777216:=⟨Int.le_trans (by decide) hd.1,hd.2,by decide⟩;refine and5 (by exact ⟨by decide,PyProof.noPylong_small (by decide)⟩) (by exact ⟨by (clear h3 h3' hi hi2 h12 hd hget hix;lia),by lia,by decide⟩) (by exact h12) (by decide) (by exact hix) ?_;refine aC hget ?_;refine hT _ ?_;refine (?_:itY x i++[_]=_);rw [cK0];(refine rwg (Int.zero_add ..) ?_;refine rwg (Int.toNat_natCast ..) ?_;rfl)
 ·refine aA5 ?_;refine cM0 (by exact ⟨by decide,PyProof.noPylong_small (by decide)⟩) (by decide) (by exact aN5 rfl) ?_;refine (?_:∃ _,_);refine aP0 (σ:=itS2 x σ.wd (1 + x.fmod 3 - 0).toNat) (fun i=>if (i=0∨((x.fdiv 3).fmod 2==1)=false) then [] else [.obj 2]) rfl ?_ ?_ ?_
  ·exact rfl
  ·intro i c T hT hc;rcases i with _ | i
   ·obtain rfl:=Option.some.inj hc;refine aA8 (fun hb400=>?_) (fun hb400=>?_)
    ·refine And.intro (by decide) ?_;exact hT _ (by rw [hb400,if_pos (.inl rfl),if_neg (by simp)];rfl)
    ·exact hT _ (by rw [hb400,if_pos (.inl rfl),if_pos (.inr rfl)];rfl)
   ·exact absurd (List.getElem?_eq_some_iff.mp hc).1 (by simp)
  ·have e:itY x (1 + x.fmod 3 - 0).toNat++(if ((Sq.l [AV.int ((x.fdiv 3).fmod 2)]).len=0∨((x.fdiv 3).fmod 2==1)=false) then [] else [.obj 2])=(aC1 x).map fun k=>.obj (itN k):=by
    (refine rwg (map_append ..) ?_;refine rwg (List.map_map ..) ?_)
    congr 1
    cases hb:((x.fdiv 3).fmod 2==1)
    ·(refine rwg (if_pos (.inr rfl) ..) ?_;refine rwg (if_neg (by decide) ..) ?_);rfl
    ·(refine rwg (if_neg (by simp [Sq.len]) ..) ?_;refine rwg (if_pos rfl ..) ?_);rfl
   have er:bK6 0 cO2 (.list (itY x (1 + x.fmod 3 - 0).toNat++(if ((Sq.l [AV.int ((x.fdiv 3).fmod 2)]).len=0∨((x.fdiv 3).fmod 2==1)=false) then [] else [.obj 2])))=some (.list ((aC1 x).map .obj)):=e▸it_ren x;have hlen:(itY x (1 + x.fmod 3 - 0).toNat).length + (if ((Sq.l [AV.int ((x.fdiv 3).fmod 2)]).len=0∨((x.fdiv 3).fmod 2==1)=false) then [] else [AV.obj 2]).length≤sizeLine:=by
    (refine rwb (List.length_append ..) ?_;refine rwg (e ..) ?_;refine rwg (length_map ..) ?_;refine rwg (sizeLine_eq ..) ?_)
    have:=aG7 x;(clear h3 h3' e er;lia)
   refine And.intro (by exact hlen) ?_;refine aL (a':=.obj 12) (a'':=.obj (σ.obj.length + 12)) cO2 rfl rfl (os1:=itemsTable.map aO8++[.list ((aC1 x).map .obj)]) ?_ rfl rfl ?_ hK
   ·repeat (first | exact .nil | refine .cons rfl ?_ | refine .cons er ?_)
   ·exact aF0 (aL9 fun a u_=>rfl) (by (refine rwg (mapM_cons ..) ?_;refine rwg (it_dn ..) ?_);rfl)
noncomputable def aD7 (wd:Str) (x:Int) (i:Nat):Str:=if ((i:Int) + x).fmod 3==0 then ofString "\\"++Txt.item wd i else Txt.item wd i
noncomputable def aH9 (wd:Str) (x:Int) (n:Nat):List Str:=(List.range n).map (aD7 wd x)
noncomputable def aD4 (wd:Str) (x:Int):Str :=
 if x.fmod 2==0 then ofString "\""++Txt.join (ofString "") (aH9 wd x wd.length)++ofString "\"\n" else Txt.join (ofString "") (aH9 wd x wd.length)++ofString "\n"
theorem aP3 (wd:Str) (x:Int) (i:Nat):aH9 wd x (i + 1)=aH9 wd x i++[aD7 wd x i]:=by
 unfold aH9;rw [range_succ,map_append];rfl
theorem aR7 (wd:Str) (x:Int):∀ n:Nat,((aH9 wd x n).map fun x=>x.length).sum≤2 * n
 | 0=>le_refl _
 | n + 1=>by
  have:=aR7 wd x n;have h:(aD7 wd x n).length≤2:=by
   have h1:(Txt.item wd (n:Int)).length=1:=rfl;have h2:(ofString "\\").length=1:=by decide +kernel
   unfold aD7;split
   ·rw [Str.length_append,h1,h2];exact le_refl _
   ·rw [h1];exact le_succ 1
  rw [aP3,map_append,List.sum_append];simp only [map_cons,map_nil,List.sum_cons,List.sum_nil]
  lia
noncomputable def wrO (wd:Str) (x:Int):List AO:=[.cell (some (.int x)),.cell (some (.str wd)),.rng 0 wd.length 1]
theorem aM7 {P:Params} {n:Nat} {base:List AO} {wd:Str} {x:Int} {σ:St} {K:AV→St→Prop} (h0:wd.length≤90) (hK:K (.str (aD4 wd x)) σ):aG6 (aF4 (aF8 P) (n + 1) base (.ref 168) [.str wd,.int x] σ K):=by
 refine aN9 (in168 P) rfl rfl [(ofString "x",0),(ofString "word",1)] [] [.cell (some (.int x)),.cell (some (.str wd))] rfl rfl rfl rfl ?_;refine aA5 ?_;refine aA5 ?_;refine aA5 ?_;refine aM4 (by lia) (by exact ⟨bB9 (by dsimp only;(clear h0;lia)) (by dsimp only;(clear h0;lia)) (by dsimp only;(clear h0;lia)) (by dsimp only;lia),by rw [sizeLine_eq];dsimp only;lia⟩) ?_;refine (?_:∃ _,_);refine aP0 (σ:=⟨[],wrO wd x,σ.wd⟩) (fun i=>(aH9 wd x i).map .str) rfl ?_ ?_ ?_
 ·exact trivial
 ·rintro i c T hT ⟨hi,rfl⟩;have hi:i < ((wd.length:Int) - 0).toNat:=hi;refine And.intro (by decide) ?_;refine aA8 (fun hb200=>?_) (fun hb200=>?_)
  ·refine aM4 (by (clear hb200;lia)) (by exact aN5 rfl) ?_;refine hT _ ?_;rw [Int.zero_add] at hb200;rw [aP3,map_append];unfold aD7;rw [hb200,Int.zero_add];rfl
  ·refine And.intro (by omega) ?_;refine hT _ ?_;rw [Int.zero_add] at hb200;rw [aP3,map_append];unfold aD7;rw [hb200,Int.zero_add];rfl
 ·have e:(Sq.r 0 ((wd.length:Int) - 0).toNat).len=wd.length:=by show ((wd.length:Int) - 0).toNat=_;(clear h0;lia)
  have hs:=aR7 wd x wd.length;have hj:(Txt.join (ofString "") (aH9 wd x wd.length)).length≤180:=by rw [aL0,aH4];(clear e;lia)
  have hj2:((aH9 wd x wd.length).map fun x=>x.length).sum + (aH9 wd x wd.length).length * (ofString "").length≤16777216:=by
   rw [show (ofString "").length=0 by decide +kernel];(clear e hj;lia)
  have h1:=cB5 (show (ofString "\"").length≤10 by decide +kernel) hj (by rw [sizeLine_eq];decide);have h2:=cB5 (b:=ofString "\"\n") (aD5 (show (ofString "\"").length≤10 by decide +kernel) hj) (show _≤10 by decide +kernel) (by rw [sizeLine_eq];decide);have h3:=cB5 hj (show (ofString "\n").length≤10 by decide +kernel) (by rw [sizeLine_eq];decide);simp only [e]
  refine (?_:aB4 _ _);rw [aT0];refine aM4 (by exact hj2) (by decide) ?_;refine aA8 (fun hb300=>?_) (fun hb300=>?_)
  ·refine aM4 (by exact h1) (by exact h2) ?_;refine (?_:∃ _,_);exact aG3 rfl (by unfold aD4 at hK;rw [hb300] at hK;exact hK)
  ·refine And.intro (by exact h3) ?_;refine (?_:∃ _,_);exact aG3 rfl (by unfold aD4 at hK;rw [hb300] at hK;exact hK)
theorem aO1 {α β:Type} (f:α→β) (xs:List α) (lo hi:Option Int):aF (xs.map f) lo hi=(aF xs lo hi).map f:=by
 unfold aF;rw [length_map,List.map_filterMap]
 congr 1
 funext i
 (refine rwg (getElem?_map ..) ?_;rfl)
theorem bC4 (bs:List Addr) (k:Nat) (hk:1≤k):aF (bs.map AV.fz) none (some (-(k:Int)))=(bs.take (bs.length - k)).map AV.fz:=by
 refine rwg (aO1 ..) ?_
 congr 1
 have h:=congrArg Array.toList (slicePick_butLast (toArray (bs.map Value.ref)) k hk);have h2:(aF (bs.map Value.ref) none (some (-(k:Int))))=(bs.take (bs.length - k)).map Value.ref:=by
  have h3:aF (bs.map Value.ref) none (some (-(k:Int)))=(slicePick (toArray (bs.map Value.ref)) none (some (-(k:Int))) none).toList:=by
   unfold slicePick aF;simp
  (refine rwg (h3 ..) ?_;refine rwg (h ..) ?_)
  simp
 rw [aO1] at h2;exact List.map_inj_right (fun u_ u_ e=>Value.ref.inj e) |>.mp h2
noncomputable def FzAll (fz:Addr→Option AO) (bs:List Addr) (xss:List (List Bool)):Prop:=bs.length=xss.length∧∀ (i:Nat) b xs,bs[i]?=some b→xss[i]?=some xs→fz b=some (.list (xs.map .bool))
theorem cQ (bs:List Addr) (b:Addr):((bs++[b]).map AV.fz)[(if (-1:Int) < 0 then -1 + (((bs++[b]).map AV.fz).length:Int) else -1).toNat]?=some (.fz b):=by
 (refine rwg (if_pos (by decide) ..) ?_;refine rwg (length_map ..) ?_;refine rwg (List.length_append ..) ?_;refine rwg (length_singleton ..) ?_;refine rwg (show ((-1:Int) + ((bs.length + 1:Nat):Int)).toNat=bs.length by lia) ?_;refine rwg (map_append ..) ?_;refine rwg (getElem?_append_right (by rw [length_map];exact le_refl _) ..) ?_;refine rwg (length_map ..) ?_;refine rwg (sub_self ..) ?_);rfl
theorem dB6 (bs:List Addr) (b:Addr) (h:bs.length≤50):-((((bs++[b]).map AV.fz).length:Nat):Int)≤-1∧(-1:Int) < ((((bs++[b]).map AV.fz).length:Nat):Int)∧((bs++[b]).map AV.fz).length≤16777216:=by
 (refine rwg (length_map ..) ?_;refine rwg (List.length_append ..) ?_;refine rwg (length_singleton ..) ?_)
 lia
theorem but1 (bs:List Addr) (b:Addr):aF ((bs++[b]).map AV.fz) none (some (-1))=bs.map AV.fz:=by
 have:=bC4 (bs++[b]) 1 (le_refl _);rw [List.length_append,length_singleton,Nat.add_sub_cancel,List.take_left] at this;exact this
theorem bE6 {α β:Type} (g:α→β) {xs:List α} {i:Nat} {x:α} (h:xs[i]?=some x):(xs.take (i + 1)).map g=(xs.take i).map g++[g x]:=by
 (refine aH5 h ?_;intro hi eo0;clear h;subst eo0)
 (refine rwg (take_succ_eq_append_getElem hi ..) ?_;refine rwg (map_append ..) ?_);rfl
theorem bA5 {n0:Nat} {sel:List Nat} {xs ys:List AV} (e:xs=ys) (h:ys.all aV2=true):bK6 n0 sel (.list xs)=some (.list ys):=by subst e;exact aA2 h
theorem aX4 (bs:List Addr):(bs.map AV.fz).all aV2=true:=by refine rwg (all_map ..) ?_;exact all_eq_true.mpr fun u_ u_=>rfl
theorem cS2 {pb:List (AV × AO)} {n:Nat} {xs:List Bool}:dnO pb n (.list (xs.map .bool))=some (.list (xs.map .bool)):=by
 refine (?_:Option.map _ (List.mapM _ _)=_);refine rwg (aV0 (aD2 xs) ..) ?_;rfl
theorem cR6 {pb:List (AV × AO)} {n:Nat} {bs:List Addr}:dnO pb n (.list (bs.map .fz++[.obj 0]))=some (.list (bs.map .fz++[.obj n])):=by
 refine (?_:Option.map _ (List.mapM _ _)=_);refine rwg (aF0 (aV0 (aX4 bs) pb n) (y:=[.obj n]) rfl ..) ?_;rfl
theorem get_1 (bs:List Addr) (b c:Addr):((bs++[b,c]).map AV.fz)[(if (-1:Int) < 0 then -1 + (((bs++[b,c]).map AV.fz).length:Int) else -1).toNat]?=some (.fz c):=by
 (refine rwg (if_pos (by decide) ..) ?_;refine rwg (length_map ..) ?_;refine rwg (List.length_append ..) ?_;refine rwg (length_cons ..) ?_;refine rwg (length_singleton ..) ?_;refine rwg (show ((-1:Int) + ((bs.length + (1 + 1):Nat):Int)).toNat=bs.length + 1 by lia) ?_;refine rwg (map_append ..) ?_;refine rwg (getElem?_append_right (by rw [length_map];lia) ..) ?_;refine rwg (length_map ..) ?_;refine rwg (Nat.add_sub_cancel_left ..) ?_);rfl
theorem get_2 (bs:List Addr) (b c:Addr):((bs++[b,c]).map AV.fz)[(if (-2:Int) < 0 then -2 + (((bs++[b,c]).map AV.fz).length:Int) else -2).toNat]?=some (.fz b):=by
 (refine rwg (if_pos (by decide) ..) ?_;refine rwg (length_map ..) ?_;refine rwg (List.length_append ..) ?_;refine rwg (length_cons ..) ?_;refine rwg (length_singleton ..) ?_;refine rwg (show ((-2:Int) + ((bs.length + (1 + 1):Nat):Int)).toNat=bs.length by lia) ?_;refine rwg (map_append ..) ?_;refine rwg (getElem?_append_right (by rw [length_map];lia) ..) ?_;refine rwg (length_map ..) ?_;refine rwg (sub_self ..) ?_);rfl
theorem but2 (bs:List Addr) (b c:Addr):aF ((bs++[b,c]).map AV.fz) none (some (-2))=bs.map AV.fz:=by
 have:=bC4 (bs++[b,c]) 2 (by decide);rw [List.length_append,show [b,c].length=2 from rfl,Nat.add_sub_cancel,List.take_left] at this;exact this
theorem cP9 {P:Params} {n:Nat} {base:List AO} {a:Addr} {bs:List Addr} {b:Addr} {xs:List Bool} {f:AV} {fs:List Bool} {σ:St} {K:AV→St→Prop} (ha:σ.wd.fz a=some (.list ((bs++[b]).map .fz))) (hb:σ.wd.fz b=some (.list (xs.map .bool))) (hn:bs.length≤50) (hx:xs.length≤50)
  (hf:aY9 (gB base (aF8 P).tab (aF8 P).W) σ f=some (.list (fs.map .bool))) (hK:K (.obj (σ.obj.length + 1)) ⟨σ.loc,σ.obj++[.list ((xs.map (!·)).map .bool),.list (bs.map .fz++[.obj σ.obj.length])],σ.wd⟩) :
  aG6 (aF4 (aF8 P) (n + 1) base (.ref 197) [.fz a,.str (ofString "not"),f] σ K):=by
 refine aL1 (cL2 P) rfl rfl [(f,.list (fs.map .bool))] [.fz a,.str (ofString "not"),.par 0] [(ofString "word",0)] [.list (fs.map .bool)] [(ofString "answers",.fz a),(ofString "found",.par 0)] [.cell (some (.str (ofString "not")))] rfl ?_ rfl rfl rfl rfl ?_
 ·intro p hp;obtain rfl:=mem_singleton.mp hp;exact (aA0 (_) (hf) (by refine (?_:Option.map _ (List.mapM _ _)=_);refine rwg (aQ5 (aD2 _) ..) ?_;rfl))
 have hla:∀ l o,aB (gFn P n 197 (aY0 P) [(ofString "word",0)] [.list (fs.map .bool)]) ⟨l,o,σ.wd⟩ (.fz a)=some ((bs++[b]).map .fz):=fun l o=>by
  refine (?_:(σ.wd.fz a).bind AO.list?=_);refine rwg (ha ..) ?_;rfl
 have hlb:∀ l o,aB (gFn P n 197 (aY0 P) [(ofString "word",0)] [.list (fs.map .bool)]) ⟨l,o,σ.wd⟩ (.fz b)=some (xs.map .bool):=fun l o=>by
  refine (?_:(σ.wd.fz b).bind AO.list?=_);refine rwg (hb ..) ?_;rfl
 have hget:=cQ bs b;have hix:=dB6 bs b hn;have hs1:((bs++[b]).map AV.fz).length≤sizeLine:=by (refine rwg (length_map ..) ?_;refine rwg (List.length_append ..) ?_;refine rwg (length_singleton ..) ?_;refine rwg (sizeLine_eq ..) ?_);omega
 have hs2:(xs.map AV.bool).length≤sizeLine:=by (refine rwg (length_map ..) ?_;refine rwg (sizeLine_eq ..) ?_);omega
 refine aC (hla _ _) ?_;refine And.intro (by with_reducible assumption) ?_;refine aA5 ?_;refine aC (hla _ _) ?_;refine And.intro (by with_reducible assumption) ?_;refine aC hget ?_;refine aC (hlb _ _) ?_;refine And.intro (by with_reducible assumption) ?_;refine (?_:∃ _,_);refine aP0 (σ:=⟨[(ofString "answers",.fz a),(ofString "found",.par 0)],[.cell (some (.str (ofString "not"))),.list (aF ((bs++[b]).map AV.fz) none (some (-1)))],σ.wd⟩) (fun i=>(xs.take i).map fun x=>.bool (!x)) rfl ?_ ?_ ?_
 ·exact hlb _ _
 ·intro i c T hT hc;have hc:(xs.map AV.bool)[i]?=some c:=hc;rw [getElem?_map] at hc;(refine aB9 hc ?_;intro x hx eo0;clear hc;clear hc;subst eo0)
  exact hT _ ((bE6 _ hx).symm)
 ·(refine rwg (show (Sq.l (xs.map AV.bool)).len=xs.length from length_map ..) ?_;refine rwg (take_length ..) ?_)
  have hs3:∀ k,(aF ((bs++[b]).map AV.fz) none (some (-1))).length + [AV.obj k].length≤sizeLine:=fun k=>by (refine rwg (but1 ..) ?_;refine rwg (length_map ..) ?_;refine rwg (sizeLine_eq ..) ?_;refine rwg (length_singleton ..) ?_);omega
  refine And.intro (by exact hs3 _) ?_;refine aL (a':=.obj 1) (a'':=.obj (σ.obj.length + 1)) [2,4] rfl rfl (os1:=[.list ((xs.map (!·)).map .bool),.list (bs.map .fz++[.obj 0])]) (.cons (bA5 (by refine rwg (List.map_map ..) ?_;rfl) (aD2 _)) (.cons ?_ .nil)) rfl rfl ?_ hK
  ·refine rwg (but1 ..) ?_;refine (?_:Option.map _ (List.mapM _ _)=_);refine rwg (aF0 (aR4 (aX4 bs) 0 [2,4]) (y:=[.obj 0]) rfl ..) ?_;rfl
  ·(refine rwg (mapM_cons ..) ?_;refine rwg (mapM_cons ..) ?_;refine rwg (cS2 ..) ?_;refine rwg (cR6 ..) ?_);rfl
noncomputable def ldO (w:Str) (p1 p2 p3 p4 q1 q2 q3 q4:Bool) (xs:List AV):List AO:=[.cell (some (.str w)),.list [.str (ofString "and"),.str (ofString "or")],.tup [.bool p1,.bool q1],.tup [.bool p2,.bool q2],.tup [.bool p3,.bool q3],.tup [.bool p4,.bool q4],.list [.obj 2,.obj 3,.obj 4,.obj 5],.list xs]
theorem cY8 {G:Gx} {w:Str} {p1 p2 p3 p4 q1 q2 q3 q4:Bool} {xs:List AV} {g:Bool→Bool→Bool} {i:Nat} {c:AV} (h:[AV.obj 2,.obj 3,.obj 4,.obj 5][i]?=some c) (wd:Wd) :
  ∃ p q,(∀ l,bX7 G ⟨l,ldO w p1 p2 p3 p4 q1 q2 q3 q4 xs,wd⟩ c=some [.bool p,.bool q])∧([g p1 q1,g p2 q2,g p3 q3,g p4 q4].map AV.bool).take (i + 1)=([g p1 q1,g p2 q2,g p3 q3,g p4 q4].map AV.bool).take i++[.bool (g p q)]:=by
 rcases i with _ | _ | _ | _ | i
 ·obtain rfl:=Option.some.inj h;exact ⟨p1,q1,fun u_=>rfl,rfl⟩
 ·obtain rfl:=Option.some.inj h;exact ⟨p2,q2,fun u_=>rfl,rfl⟩
 ·obtain rfl:=Option.some.inj h;exact ⟨p3,q3,fun u_=>rfl,rfl⟩
 ·obtain rfl:=Option.some.inj h;exact ⟨p4,q4,fun u_=>rfl,rfl⟩
 ·exact absurd (List.getElem?_eq_some_iff.mp h).1 (Nat.not_lt.mpr (Nat.le_add_left 4 _))
theorem cK1 {P:Params} {n:Nat} {base:List AO} {a:Addr} {bs:List Addr} {b c:Addr} {p1 p2 p3 p4 q1 q2 q3 q4:Bool} {f:AV} {fs:List Bool} {w:Str} {g:Bool→Bool→Bool} {σ:St} {K:AV→St→Prop} (hw:w=ofString "and"∧g=and∨w=ofString "or"∧g=or) (ha:σ.wd.fz a=some (.list ((bs++[b,c]).map .fz))) (hb:σ.wd.fz b=some (.list [.bool p1,.bool p2,.bool p3,.bool p4])) (hc:σ.wd.fz c=some (.list [.bool q1,.bool q2,.bool q3,.bool q4])) (hn:bs.length≤50)
  (hf:aY9 (gB base (aF8 P).tab (aF8 P).W) σ f=some (.list (fs.map .bool))) (hK:K (.obj (σ.obj.length + 1)) ⟨σ.loc,σ.obj++[.list ([g p1 q1,g p2 q2,g p3 q3,g p4 q4].map .bool),.list (bs.map .fz++[.obj σ.obj.length])],σ.wd⟩) :
  aG6 (aF4 (aF8 P) (n + 1) base (.ref 197) [.fz a,.str w,f] σ K):=by
 refine aL1 (cL2 P) rfl rfl [(f,.list (fs.map .bool))] [.fz a,.str w,.par 0] [(ofString "word",0)] [.list (fs.map .bool)] [(ofString "answers",.fz a),(ofString "found",.par 0)] [.cell (some (.str w))] rfl ?_ rfl rfl rfl rfl ?_
 ·intro p hp;obtain rfl:=mem_singleton.mp hp;exact (aA0 (_) (hf) (by refine (?_:Option.map _ (List.mapM _ _)=_);refine rwg (aQ5 (aD2 _) ..) ?_;rfl))
 have hla:∀ l o,aB (gFn P n 197 (aY0 P) [(ofString "word",0)] [.list (fs.map .bool)]) ⟨l,o,σ.wd⟩ (.fz a)=some ((bs++[b,c]).map .fz):=fun l o=>by
  refine (?_:(σ.wd.fz a).bind AO.list?=_);refine rwg (ha ..) ?_;rfl
 have hla0:∀ l o,aB ((aF8 P).G0 ((aF8 P).call n) 197 (aY0 P) [(ofString "word",0)] [.list (fs.map .bool)]) ⟨l,o,σ.wd⟩ (.fz a)=some ((bs++[b,c]).map .fz):=hla;have hlb:∀ l o,aB ((aF8 P).G0 ((aF8 P).call n) 197 (aY0 P) [(ofString "word",0)] [.list (fs.map .bool)]) ⟨l,o,σ.wd⟩ (.fz b)=some [.bool p1,.bool p2,.bool p3,.bool p4]:=fun l o=>by
  refine (?_:(σ.wd.fz b).bind AO.list?=_);refine rwg (hb ..) ?_;rfl
 have hlc:∀ l o,aB ((aF8 P).G0 ((aF8 P).call n) 197 (aY0 P) [(ofString "word",0)] [.list (fs.map .bool)]) ⟨l,o,σ.wd⟩ (.fz c)=some [.bool q1,.bool q2,.bool q3,.bool q4]:=fun l o=>by
  refine (?_:(σ.wd.fz c).bind AO.list?=_);refine rwg (hc ..) ?_;rfl
 have hb4:∀ l o,(aB ((aF8 P).G0 ((aF8 P).call n) 197 (aY0 P) [(ofString "word",0)] [.list (fs.map .bool)]) ⟨l,o,σ.wd⟩ (.fz b)).bind bO6=some (.bool p1,.bool p2,.bool p3,.bool p4):=fun l o=>by refine rwg (hlb ..) ?_;rfl
 have hc4:∀ l o,(aB ((aF8 P).G0 ((aF8 P).call n) 197 (aY0 P) [(ofString "word",0)] [.list (fs.map .bool)]) ⟨l,o,σ.wd⟩ (.fz c)).bind bO6=some (.bool q1,.bool q2,.bool q3,.bool q4):=fun l o=>by refine rwg (hlc ..) ?_;rfl
 have hget:=get_1 bs b c;have hget2:=get_2 bs b c;have hlen:((bs++[b,c]).map AV.fz).length=bs.length + 2:=by (refine rwg (length_map ..) ?_;refine rwg (List.length_append ..) ?_);rfl
 have hix:-((((bs++[b,c]).map AV.fz).length:Nat):Int)≤-1∧(-1:Int) < ((((bs++[b,c]).map AV.fz).length:Nat):Int)∧((bs++[b,c]).map AV.fz).length≤16777216:=by refine rwg (hlen ..) ?_;(clear hw ha hb hc hf hget hget2 hlen;lia)
 have hix2:-((((bs++[b,c]).map AV.fz).length:Nat):Int)≤-2∧(-2:Int) < ((((bs++[b,c]).map AV.fz).length:Nat):Int)∧((bs++[b,c]).map AV.fz).length≤16777216:=by refine rwg (hlen ..) ?_;(clear hw ha hb hc hf hget hget2 hlen hix;lia)
 have hs1:((bs++[b,c]).map AV.fz).length≤sizeLine:=by (refine rwg (hlen ..) ?_;refine rwg (sizeLine_eq ..) ?_);(clear hw ha hb hc hf hget hget2 hlen hix hix2;lia)
 have hs3:∀ k,(aF ((bs++[b,c]).map AV.fz) none (some (-2))).length + [AV.obj k].length≤sizeLine:=fun k=>by (refine rwg (but2 ..) ?_;refine rwg (length_map ..) ?_;refine rwg (sizeLine_eq ..) ?_;refine rwg (length_singleton ..) ?_);(clear hw ha hb hc hf hget hget2 hlen hix hix2 hs1;lia)
 have hw1:(w==ofString "not")=false:=by rcases hw with ⟨rfl,_⟩ | ⟨rfl,_⟩<;>decide +kernel
 have hw2:([ofString "and",ofString "or"].any (fun x=>x==w)==true)=true:=by clear hw1;rcases hw with ⟨rfl,_⟩ | ⟨rfl,_⟩<;>decide +kernel
 have hga:(w==ofString "and")=true→g=and:=fun h=>by
  clear hw1 hw2;rcases hw with ⟨_,e⟩ | ⟨rfl,_⟩
  ·exact e
  ·exact absurd h (by decide +kernel)
 have hgo:(w==ofString "and")=false→g=or:=fun h=>by
  clear hw1 hw2 hga;rcases hw with ⟨rfl,_⟩ | ⟨_,e⟩
  ·exact absurd h (by decide +kernel)
  ·exact e
 clear hw;refine aC3 hw1 ?_;refine aC9 ?_;refine aA4 hw2 ?_;refine (?_:∃ _,_);refine ⟨_,_,_,_,_,_,⟨rfl,rfl,rfl,rfl,rfl⟩,?_⟩;refine aC (hla0 _ _) ?_;refine And.intro (by with_reducible assumption) ?_;refine aC hget2 ?_;refine aC (hla0 _ _) ?_;refine And.intro (by with_reducible assumption) ?_;refine aC hget ?_;refine aC (hb4 _ _) ?_;refine aC (hc4 _ _) ?_;refine aC (hla0 _ _) ?_;refine And.intro (by with_reducible assumption) ?_;refine aA5 ?_;refine And.intro (by exact aN5 rfl) ?_;refine (?_:∃ _,_);refine aP0 (σ:=⟨[(ofString "answers",.fz a),(ofString "found",.par 0),(ofString "pairs",.obj 6)],ldO w p1 p2 p3 p4 q1 q2 q3 q4 (aF ((bs++[b,c]).map AV.fz) none (some (-2))),σ.wd⟩) (fun i=>([g p1 q1,g p2 q2,g p3 q3,g p4 q4].map AV.bool).take i) rfl ?_ ?_ ?_
 ·exact rfl
 ·intro i cc T hT hc;obtain ⟨p,q,hsq,hys⟩:=cY8 (G:=gFn P n 197 (aY0 P) [(ofString "word",0)] [.list (fs.map .bool)]) (w:=w) (g:=g) (xs:=aF ((bs++[b,c]).map AV.fz) none (some (-2))) hc σ.wd;refine (?_:aB4 _ _);refine aC (hsq _) ?_;refine aA8 (fun hb500=>?_) (fun hb500=>?_)
  ·exact hT _ (by (refine rwg (hys ..) ?_;refine rwg (hga hb500 ..) ?_);rfl)
  ·exact hT _ (by (refine rwg (hys ..) ?_;refine rwg (hgo hb500 ..) ?_);rfl)
 ·refine And.intro (by exact hs3 _) ?_;refine aL (a':=.obj 1) (a'':=.obj (σ.obj.length + 1)) [8,10] rfl rfl (os1:=[.list ([g p1 q1,g p2 q2,g p3 q3,g p4 q4].map .bool),.list (bs.map .fz++[.obj 0])]) (.cons (bA5 rfl (aD2 _)) (.cons ?_ .nil)) rfl rfl ?_ hK
  ·refine rwg (but2 ..) ?_;refine (?_:Option.map _ (List.mapM _ _)=_);refine rwg (aF0 (aR4 (aX4 bs) 0 [8,10]) (y:=[.obj 0]) rfl ..) ?_;rfl
  ·(refine rwg (mapM_cons ..) ?_;refine rwg (mapM_cons ..) ?_;refine rwg (cS2 ..) ?_;refine rwg (cR6 ..) ?_);rfl
theorem cF0 {P:Params} {n:Nat} {base:List AO} {a:Addr} {bs:List Addr} {f:AV} {fs:List Bool} {w:Str} {σ:St} {K:AV→St→Prop} (hw1:(w==ofString "not")=false) (hw2:[ofString "and",ofString "or"].any (·==w)=false) (ha:σ.wd.fz a=some (.list (bs.map .fz))) (hn:bs.length≤50)
  (hf:aY9 (gB base (aF8 P).tab (aF8 P).W) σ f=some (.list (fs.map .bool))) (hK:K (.obj σ.obj.length) ⟨σ.loc,σ.obj++[.list (bs.map .fz++[f])],σ.wd⟩) :
  aG6 (aF4 (aF8 P) (n + 1) base (.ref 197) [.fz a,.str w,f] σ K):=by
 refine aL1 (cL2 P) rfl rfl [(f,.list (fs.map .bool))] [.fz a,.str w,.par 0] [(ofString "word",0)] [.list (fs.map .bool)] [(ofString "answers",.fz a),(ofString "found",.par 0)] [.cell (some (.str w))] rfl ?_ rfl rfl rfl rfl ?_
 ·intro p hp;obtain rfl:=mem_singleton.mp hp;exact (aA0 (_) (hf) (by refine (?_:Option.map _ (List.mapM _ _)=_);refine rwg (aQ5 (aD2 _) ..) ?_;rfl))
 have hla:∀ l o,aB (gFn P n 197 (aY0 P) [(ofString "word",0)] [.list (fs.map .bool)]) ⟨l,o,σ.wd⟩ (.fz a)=some (bs.map .fz):=fun l o=>by
  refine (?_:(σ.wd.fz a).bind AO.list?=_);refine rwg (ha ..) ?_;rfl
 have hs3:∀ k,(bs.map AV.fz).length + [AV.par k].length≤sizeLine:=fun k=>by (refine rwg (length_map ..) ?_;refine rwg (sizeLine_eq ..) ?_;refine rwg (length_singleton ..) ?_);(clear hw1 hw2 ha hf;lia)
 have hw3:([ofString "and",ofString "or"].any (fun x=>x==w)==true)=false:=by refine rwg (hw2 ..) ?_;rfl
 refine aC3 hw1 ?_;refine aC9 ?_;refine aC3 hw3 ?_;refine aA5 ?_;refine aC (hla _ _) ?_;refine And.intro (by exact hs3 _) ?_;refine aL (a':=.obj 0) (a'':=.obj σ.obj.length) [3] rfl rfl (os1:=[.list (bs.map .fz++[.par 0])]) (.cons ?_ .nil) rfl rfl ?_ hK
 ·refine (?_:Option.map _ (List.mapM _ _)=_);refine rwg (aF0 (aR4 (aX4 bs) 0 [3]) (y:=[.par 0]) rfl ..) ?_;rfl
 ·have e:dnO [(f,.list (fs.map AV.bool))] σ.obj.length (.list (bs.map AV.fz++[.par 0]))=some (.list (bs.map .fz++[f])):=by
   refine (?_:Option.map _ (List.mapM _ _)=_);refine rwg (aF0 (aV0 (aX4 bs) _ _) (y:=[f]) rfl ..) ?_;rfl
  (refine rwg (mapM_cons ..) ?_;refine rwg (e ..) ?_);rfl
theorem bW9 {P:Params} {n:Nat} {base:List AO} {x f:AV} {fs:List Bool} {w:Str} {σ:St} {K:AV→St→Prop} (hw1:(w==ofString "not")=false) (hw2:[ofString "and",ofString "or"].any (·==w)=false) (hx:aY9 (gB base (aF8 P).tab (aF8 P).W) σ x=some (.list []))
  (hf:aY9 (gB base (aF8 P).tab (aF8 P).W) σ f=some (.list (fs.map .bool))) (hK:K (.obj σ.obj.length) ⟨σ.loc,σ.obj++[.list [f]],σ.wd⟩) :
  aG6 (aF4 (aF8 P) (n + 1) base (.ref 197) [x,.str w,f] σ K):=by
 refine aL1 (cL2 P) rfl rfl [(x,.list []),(f,.list (fs.map .bool))] [.par 0,.str w,.par 1] [(ofString "word",0)] [.list [],.list (fs.map .bool)] [(ofString "answers",.par 0),(ofString "found",.par 1)] [.cell (some (.str w))] rfl ?_ rfl rfl rfl rfl ?_
 ·intro p hp;rcases mem_cons.mp hp with rfl | hp
  ·exact (aA0 (_) (hx) (rfl))
  obtain rfl:=mem_singleton.mp hp;exact (aA0 (_) (hf) (by refine (?_:Option.map _ (List.mapM _ _)=_);refine rwg (aQ5 (aD2 _) ..) ?_;rfl))
 have hw3:([ofString "and",ofString "or"].any (fun x=>x==w)==true)=false:=by refine rwg (hw2 ..) ?_;rfl
 refine aC3 hw1 ?_;refine aC9 ?_;refine aC3 hw3 ?_;refine aA5 ?_;refine And.intro (by exact aN5 rfl) ?_;exact aL (a':=.obj 0) (a'':=.obj σ.obj.length) [3] rfl rfl (os1:=[.list [.par 1]]) (.cons rfl .nil) rfl rfl rfl hK
inductive Part where
 | star
 | txt (s:Str)
noncomputable def textsL:List Str:=[ofString "*",ofString "?",ofString "r",ofString "w",ofString "x",ofString "-",ofString "[st]",ofString "[!-]",ofString "d",ofString "[r-x]",ofString "[x-r]",ofString "[!x-r]"]
noncomputable def aA7 (k:Nat):Str:=textsL.getD k Str.empty
noncomputable def partsL:List Str:=[ofString "",ofString ".",ofString "r",ofString "w",ofString "x",ofString "\\-",ofString "[st]",ofString "[^\\-]",ofString "d",ofString "[r-x]",ofString "(?!)",ofString "."]
noncomputable def aC5 (k:Nat):Str:=partsL.getD k Str.empty
noncomputable def aC8 (acc:List Part) (k:Nat):List Part :=
 if k=0 then (match acc.getLast? with | some .star=>acc | _=>acc++[.star]) else acc++[.txt (aC5 k)]
noncomputable def aE9 (st:AV):Part→AV
 | .star=>st
 | .txt x=>.str x
theorem aR5 (acc:List Part) (k:Nat):(aC8 acc k).length≤acc.length + 1:=by
 unfold aC8;split
 ·split<;>simp
 ·simp
noncomputable def cR7 (p:Part):Prop:=p=.star∨∃ k,1≤k∧k < 12∧p=.txt (aC5 k)
set_option tactic.hygienic true in
theorem bQ8:∀ (ks:List Nat) (acc:List Part),(∀ k∈ks,k < 12)→(∀ p∈acc,cR7 p)→∀ p∈ks.foldl aC8 acc,cR7 p
 | [],acc,_,h=>h
 | k::r,acc,hk,h=>by
  refine bQ8 r (aC8 acc k) (fun j hj=>hk j (.tail _ hj)) fun p hp=>?_;unfold aC8 at hp;split at hp
  ·split at hp
   ·exact h p hp
   ·rcases mem_append.mp hp with hp | hp
    ·exact h p hp
    ·obtain rfl:=mem_singleton.mp hp;exact .inl rfl
  ·rename_i hk0;rcases mem_append.mp hp with hp | hp
   ·exact h p hp
   ·obtain rfl:=mem_singleton.mp hp;exact .inr (aM1 (k) (by lia) (hk k (.head _)) (rfl))
theorem aN3:∀ (ks:List Nat) (acc:List Part),(ks.foldl aC8 acc).length≤acc.length + ks.length
 | [],acc=>le_refl _
 | k::r,acc=>by
  have h1:=aN3 r (aC8 acc k);have h2:=aR5 acc k;refine (?_:(r.foldl aC8 (aC8 acc k)).length≤_);refine rwg (length_cons ..) ?_;lia
noncomputable def bO9 (x:Str):Str:=if x=ofString "[st]" then ofString "st" else if x=ofString "[^\\-]" then ofString "-" else if x=ofString "[r-x]" then ofString "rstuvwx" else if x=ofString "." then ofString "" else if x=ofString "\\-" then ofString "-" else x
noncomputable def cX8 (x:Str):Bool:=if x=ofString "." then true else if x=ofString "[^\\-]" then true else false
noncomputable def aB3 (sg:Str) (zs:List Int):Part→List Int
 | .star=>(match zs with | []=>[] | z::_=>aJ2 z (sg.length + 1))
 | .txt x=>if x=ofString "(?!)" then [] else aJ8 sg (bO9 x) (cX8 x) zs
theorem Pl.taken {sg:Str} {zs:List Int} (h:Pl sg zs) (p:Part):Pl sg (aB3 sg zs p):=by
 cases p with
 | star =>
  cases zs with
  | nil=>exact h
  | cons z r=>exact h.range
 | txt x =>
  show Pl sg (if _ then _ else _)
  split
  ·exact ⟨zero_le _,fun u_ h=>nomatch h⟩
  ·exact h.step _ _
theorem bF {sg:Str}:∀ {ps:List Part} {zs:List Int},Pl sg zs→Pl sg (ps.foldl (aB3 sg) zs)
 | [],_,h=>h
 | p::r,zs,h=>bF (ps:=r) (h.taken p)
noncomputable def bC6 (sg:Str) (ks:List Nat):List Int:=(ks.foldl aC8 []).foldl (aB3 sg) [0]
section
open PySem.Builtin PySem.Builtin.Str
structure At (pat:PySem.Str) (a:Nat) (it:PySem.Str):Prop where
 le:a + it.length≤pat.length
 at_:∀ k c,it.cps[k]?=some c→pat.cps[a + k]?=some c
theorem At.item {pat it:PySem.Str} {i j c:Nat} {k:Int} (h:At pat i it) (hk:k=(i:Int) + j) (hc:it.cps[j]?=some c):Txt.item pat k=⟨#[c]⟩:=by
 have h1:=h.at_ j c hc;have hlt:i + j < pat.cps.size:=(Array.getElem?_eq_some_iff.mp h1).1;have e:Txt.charAt pat k=some c:=by
  unfold Txt.charAt;(refine rwg (StrLaws.seqIndex_nonneg (by (clear hc h1 hlt;lia)) (by refine (?_:k < (pat.cps.size:Int));(clear hc h1;lia)) ..) ?_;refine rwg (show k.toNat=i + j by (clear hc h1 hlt;lia)) ?_)
  exact h1
 unfold Txt.item;refine rwg (e ..) ?_;rfl
set_option tactic.hygienic true in
theorem At.slice {pat it:PySem.Str} {i j1 j2:Nat} {k1 k2:Int} (h:At pat i it) (hk1:k1=(i:Int) + j1) (hk2:k2=(i:Int) + j2) (h12:j1≤j2) (h2:j2≤it.length) :
  Txt.slice pat (some k1) (some k2)=⟨((it.cps.toList.drop j1).take (j2 - j1)).toArray⟩:=by
 have hle:=h.le;have hsz:pat.cps.toList.length=pat.length:=by simp [PySem.Str.length]
 have e:=eq_of_beq (slice_closes (x:=pat) (i:=k1) (j:=k2) ⟨by (clear hk2 h12 h2 hle hsz;lia),by (clear h2 hle hsz;lia),by (clear hk1 h12;lia)⟩);rw [e,show k1.toNat=i + j1 by (clear hk2 h12 h2 hle hsz e;lia),show (k2 - k1).toNat=j2 - j1 by lia]
 congr 2
 apply List.ext_getElem?;intro n;rw [List.getElem?_take,List.getElem?_take];split
 ·rename_i hn;rw [List.getElem?_drop,List.getElem?_drop,Array.getElem?_toList,Array.getElem?_toList];have hlt:j1 + n < it.cps.size:=by have:it.cps.size=it.length:=rfl;(clear hk1 hk2 h12 hle hsz e;omega)
  (refine rwg (show i + j1 + n=i + (j1 + n) by (clear hk1 hk2 h12 h2 hle hsz e hn hlt;lia)) ?_;refine rwg (h.at_ (j1 + n) _ (Array.getElem?_eq_getElem hlt) ..) ?_;refine rwg (Array.getElem?_eq_getElem hlt ..) ?_;rfl)
 ·rfl
theorem At.left {pat a b:PySem.Str} {i:Nat} (h:At pat i (a++b)):At pat i a:=by
 have hle:=h.le;rw [Str.length_append] at hle;refine ⟨by lia,fun k c hk=>h.at_ k c ?_⟩;have hk':k < a.cps.size:=(Array.getElem?_eq_some_iff.mp hk).1;(refine rwg (Str.cps_append ..) ?_;refine rwg (Array.getElem?_append_left hk' ..) ?_;refine rwg (hk ..) ?_;rfl)
theorem At.right {pat a b:PySem.Str} {i:Nat} (h:At pat i (a++b)):At pat (i + a.length) b:=by
 have hle:=h.le;rw [Str.length_append] at hle;refine ⟨by lia,fun k c hk=>?_⟩;have hl:a.cps.size=a.length:=rfl;have:=h.at_ (a.length + k) c (by (refine rwg (Str.cps_append ..) ?_;refine rwg (Array.getElem?_append_right (by (clear hle hk;lia)) ..) ?_;refine rwg (hl ..) ?_;refine rwg (Nat.add_sub_cancel_left ..) ?_;refine rwg (hk ..) ?_;rfl));rw [← Nat.add_assoc] at this;exact this
theorem At.whole (pat:PySem.Str):At pat 0 pat:=⟨by lia,fun k c h=>by refine rwg (zero_add ..) ?_;exact h⟩
theorem aW6 {x:PySem.Str} {c lo hi:Nat} (h:hi≤lo):aW4 x ⟨#[c]⟩ lo hi=-1:=by
 unfold aW4;refine rwg (StrLaws.occ_eq ..) ?_;rcases StrLaws.occ_first x ⟨#[c]⟩ hi 1 (le_refl 1) (List.range' lo (hi + 1 - lo)) lo (fun i hi=>(List.mem_range'_1.mp hi).1) with ⟨h0,hn⟩ | ⟨pre,a,post,e,h0,ha,hn⟩
 ·(refine rwg (h0 ..) ?_;rfl)
 ·have h1:a∈List.range' lo (hi + 1 - lo):=by refine rwg (e ..) ?_;simp
  have h2:=(List.mem_range'_1.mp h1).1;have h3:=ha.1;have h4:(⟨#[c]⟩:PySem.Str).length=1:=rfl;(clear e h0;lia)
theorem cY6 (arr:Array Nat) {a:Nat} (h:arr[0]?=some a):(match arr.toList with | k::_=>(k:Int) | []=>(-1:Int))=(a:Int):=by
 obtain ⟨l⟩:=arr;cases l with
 | nil=>simp at h
 | cons b l=>simp at h;simp [h]
theorem bX3 {x:PySem.Str} {c lo hi:Nat} (h:lo < hi) (hx:x.cps[lo]?=some c):aW4 x ⟨#[c]⟩ lo hi=lo:=by
 unfold aW4;refine rwg (StrLaws.occ_eq ..) ?_;have hat:StrLaws.At x ⟨#[c]⟩ hi lo:=⟨by refine (?_:lo + 1≤hi);omega,((StrLaws.subAt_one x c lo).mpr (by refine rwg (Array.getElem?_toList ..) ?_;exact hx)).2⟩;rcases StrLaws.occ_first x ⟨#[c]⟩ hi 1 (le_refl 1) (List.range' lo (hi + 1 - lo)) lo (fun i hi=>(List.mem_range'_1.mp hi).1) with ⟨h0,hn⟩ | ⟨pre,a,post,e,h0,ha,hn⟩
 ·exact absurd hat (hn lo (List.mem_range'_1.mpr ⟨le_refl _,by omega⟩))
 ·have h1:a∈List.range' lo (hi + 1 - lo):=by refine rwg (e ..) ?_;simp
  have h2:=(List.mem_range'_1.mp h1).1;have h3:a=lo:=by
   cases pre with
   | nil =>
    have h5:hi + 1 - lo=(hi - lo) + 1:=by omega
    rw [h5,List.range'_succ] at e;exact (List.cons.inj e).1.symm
   | cons b pre =>
    have h5:hi + 1 - lo=(hi - lo) + 1:=by omega
    rw [h5,List.range'_succ] at e;have:lo=b:=(List.cons.inj e).1;exact absurd (this▸hat) (hn b (.head _))
  clear h hx hat e h1 h2;subst h3;exact cY6 _ h0
theorem aQ8 {x:PySem.Str} {c:Nat} {k j:Int} (h0:0≤j) (h:j≤k):aF6 x ⟨#[c]⟩ k j=-1:=by
 unfold aF6;exact aW6 (by
  unfold fromIndex;(refine rwg (if_neg (Int.not_lt.mpr (Int.le_trans h0 h)) ..) ?_;refine rwg (if_neg (Int.not_lt.mpr h0) ..) ?_;refine rwg (Int.max_eq_right h0 ..) ?_;refine rwg (Int.max_eq_right (Int.le_trans h0 h) ..) ?_)
  exact le_trans (Nat.min_le_left _ _) (Int.toNat_le_toNat h))
theorem bG3 {x it:PySem.Str} {c i jn:Nat} {k j:Int} (hA:At x i it) (hk:k=(i:Int) + jn) (hc:it.cps[jn]?=some c) (h:k < j):aF6 x ⟨#[c]⟩ k j=k:=by
 have h1:=hA.at_ jn c hc;have h2:i + jn < x.cps.size:=(Array.getElem?_eq_some_iff.mp h1).1;have h3:x.cps.size=x.length:=rfl;have e:fromIndex x.length k=i + jn:=by unfold fromIndex;refine rwg (if_neg (by (clear hc h h1 h2 h3;lia)) ..) ?_;(clear hc h h1 h2 h3;lia)
 unfold aF6;(refine rwg (e ..) ?_;refine rwg (bX3 (by unfold fromIndex;rw [if_neg (by (clear hc h1 h2 h3 e;lia))];(clear hc h1 e;lia)) h1 ..) ?_)
 (clear hc h h1 h2 h3 e;lia)
end
noncomputable def trSt (pat:Str) (i:Nat) (ps:List Part) (wd:Wd):St:=⟨[(ofString "pat",.str pat),(ofString "STAR",.par 0),(ofString "QUESTION_MARK",.str (ofString ".")),(ofString "res",.obj 0),(ofString "add",.obj 1),(ofString "n",.int pat.length),(ofString "i",.int i)],
 [.list (ps.map (aE9 (.par 0))),.bm (.obj 0),.tup [.int 0,.int pat.length]],wd⟩
noncomputable def trK:List Str:=[ofString "pat",ofString "STAR",ofString "QUESTION_MARK",ofString "res",ofString "add",ofString "n",ofString "i"]
theorem dB7 {pat:Str} {i:Nat} {ps:List Part} {wd:Wd} {x:Int} {ys:List AV} (hx:x=(i:Nat)) (hy:ys=ps.map (aE9 (.par 0))):(⟨[(ofString "pat",.str pat),(ofString "STAR",.par 0),(ofString "QUESTION_MARK",.str (ofString ".")),(ofString "res",.obj 0),(ofString "add",.obj 1),(ofString "n",.int pat.length),(ofString "i",.int x)],
 [.list ys,.bm (.obj 0),.tup [.int 0,.int pat.length]],wd⟩:St)=trSt pat i ps wd:=by subst hx;subst hy;rfl
theorem bV4:∀ k,k < 12→(aA7 k).length≤6∧1≤(aA7 k).length:=by decide +kernel
theorem bC5 {k:Nat} (h:k < 12):(aA7 k).length≤6∧1≤(aA7 k).length:=bV4 k h
theorem bF4:∀ {ks:List Nat},(∀ k∈ks,k < 12)→(aB1 (ks.map aA7)).length≤6 * ks.length
 | [],_=>by refine (?_:(ofString "").length≤0);decide +kernel
 | k::r,h=>by
  have h1:=(bC5 (h k (.head _))).1;have h2:=bF4 (ks:=r) fun j hj=>h j (.tail _ hj);refine (?_:(aA7 k++aB1 (r.map aA7)).length≤_);(refine rwg (Str.length_append ..) ?_;refine rwg (length_cons ..) ?_)
  lia
noncomputable def TrI (pat:Str) (fin:List Part) (wd:Wd) (κ:Nat) (σ:St):Prop:=∃ (i:Nat) (acc:List Part) (rest:List Nat),(∀ k∈rest,k < 12)∧At pat i (aB1 (rest.map aA7))∧i + (aB1 (rest.map aA7)).length=pat.length∧rest.foldl aC8 acc=fin∧acc.length + rest.length≤8∧κ=rest.length∧σ=trSt pat i acc wd
theorem aP9 {acc:List Part} {k:Nat} {y:Str} (hk:k≠0) (h:aC5 k=y):acc.map (aE9 (.par 0))++[AV.str y]=(aC8 acc k).map (aE9 (.par 0)):=by
 unfold aC8;(refine rwg (if_neg hk ..) ?_;refine rwg (map_append ..) ?_;refine rwg (h ..) ?_);rfl
theorem aJ0 {n0:Nat} {sel:List Nat} (ps:List Part):bK6 n0 sel (.list (ps.map (aE9 (.par 0))))=some (.list (ps.map (aE9 (.par 0)))):=by
 refine (?_:Option.map _ (List.mapM _ _)=_);(refine rwg (aL9 (k:=aE9 (.par 0)) fun p u_=>by cases p<;>rfl ..) ?_);rfl
theorem dn_par {x:AV} {ao:AO} {n0:Nat} (ps:List Part):dnO [(x,ao)] n0 (.list (ps.map (aE9 (.par 0))))=some (.list (ps.map (aE9 x))):=by
 refine (?_:Option.map _ (List.mapM _ _)=_);(refine rwg (aL9 (k:=aE9 x) fun p u_=>by cases p<;>rfl ..) ?_);rfl
theorem aI2 {n0:Nat} {sel:List Nat} (ps:List Part) (y:AV) (hy:bD6 n0 sel y=some y):bK6 n0 sel (.list (ps.map (aE9 (.par 0))++[y]))=some (.list (ps.map (aE9 (.par 0))++[y])):=by
 refine (?_:Option.map _ (List.mapM _ _)=_);(refine rwg (aF0 (aL9 (k:=aE9 (.par 0)) fun p u_=>by cases p<;>rfl) (y:=[y]) (by rw [mapM_cons,hy];rfl) ..) ?_);rfl
noncomputable def bS6 (k:Nat):Nat:=[42,63,114,119,120,45,91,91,100,91,91,91].getD k 0
theorem At.first {pat:Str} {i k:Nat} (h:At pat i (aA7 k)) (hk:k < 12):Txt.item pat i=⟨#[bS6 k]⟩:=by
 refine h.item (j:=0) (Int.add_zero _).symm ?_;exact (by decide +kernel:∀ k,k < 12→(aA7 k).cps[0]?=some (bS6 k)) k hk
noncomputable def escF (x:Str):Option Str:=if escL.any (·==x)=true then some x else if (x==ofString "-")=true then some (ofString "\\-") else none
theorem cM9 {P:Params} {n:Nat} {base:List AO} {x y:Str} {σ:St} {K:AV→St→Prop} (h:escF x=some y) (hK:K (.str y) σ):aG6 (aF4 (aF8 P) n base (.ref 102) [.str x] σ K):=by
 refine bB0 ?_;cases n<;>exact (aA0 (y) (h) (hK))
theorem lt12k:∀ k,k < 12→k=0∨k=1∨(k=2∨k=3∨k=4∨k=5∨k=8)∨k=6∨k=7∨k=9∨k=10∨k=11:=by decide
theorem cY7 {pat:Str} {i k:Nat} (h:At pat i (aA7 k)) (hk:k < 12) (h0:k≠0):(Txt.item pat i==ofString "*")=false:=by
 refine rwg (h.first hk ..) ?_;exact (by decide +kernel:∀ k,k < 12→k≠0→((⟨#[bS6 k]⟩:Str)==ofString "*")=false) k hk h0
theorem cV4 {pat:Str} {i k:Nat} (h:At pat i (aA7 k)) (hk:k < 12) (h0:k≠1):(Txt.item pat i==ofString "?")=false:=by
 refine rwg (h.first hk ..) ?_;exact (by decide +kernel:∀ k,k < 12→k≠1→((⟨#[bS6 k]⟩:Str)==ofString "?")=false) k hk h0
theorem cU9 {pat:Str} {i k:Nat} (h:At pat i (aA7 k)) (hk:k=2∨k=3∨k=4∨k=5∨k=8):((aA7 k).length=1∧k≠0)∧(Txt.item pat i==ofString "*")=false∧(Txt.item pat i==ofString "?")=false∧(Txt.item pat i==ofString "[")=false∧escF (Txt.item pat i)=some (aC5 k):=by
 refine rwg (h.first (by lia) ..) ?_;clear h;rcases hk with rfl | rfl | rfl | rfl | rfl<;>decide +kernel
theorem i1 (x:Int):x + 1=x + (1:Nat):=rfl
theorem i2 (x:Int):x + 1 + 1=x + (2:Nat):=Int.add_assoc x 1 1
theorem i3 (x:Int):x + 1 + 1 + 1=x + (3:Nat):=by (refine rwg (i2 ..) ?_;refine rwg (Int.add_assoc ..) ?_);rfl
theorem i4 (x:Int):x + 1 + 1 + 1 + 1=x + (4:Nat):=by (refine rwg (i3 ..) ?_;refine rwg (Int.add_assoc ..) ?_);rfl
theorem i5 (x:Int):x + 1 + 1 + 1 + 1 + 1=x + (5:Nat):=by (refine rwg (i4 ..) ?_;refine rwg (Int.add_assoc ..) ?_);rfl
theorem i6 (x:Int):x + 1 + 1 + 1 + 1 + 1 + 1=x + (6:Nat):=by (refine rwg (i5 ..) ?_;refine rwg (Int.add_assoc ..) ?_);rfl
theorem aK4 {i n j:Nat} {k:Int} (hk:k=i + j) (h:i + j < n):decide (k < (n:Int))=true:=decide_eq_true (by lia)
theorem bZ0 {i n j:Nat} {k:Int} (hk:k=i + j) (h:i + j < n):decide ((n:Int)≤k)=false:=decide_eq_false (by lia)
theorem aK7 {i n j:Nat} {k:Int} (hk:k=i + j) (h:i + j < n) (hn:n≤100):-(n:Int)≤k∧k < n∧n≤16777216:=by lia
theorem brk_ok {pat:Str} {i k:Nat} (h:At pat i (aA7 k)) (hk:k=6∨k=7∨k=9∨k=10∨k=11):(Txt.item pat i==ofString "*")=false∧(Txt.item pat i==ofString "?")=false∧(Txt.item pat i==ofString "[")=true:=by
 refine rwg (h.first (by lia) ..) ?_;clear h;rcases hk with rfl | rfl | rfl | rfl | rfl<;>decide +kernel
theorem At.cls {pat it:Str} {i j c:Nat} {k:Int} (h:At pat i it) (hk:k=(i:Int) + j) (hc:it.cps[j]?=some c):((Txt.item pat k==ofString "!")=(⟨#[c]⟩==ofString "!"))∧((Txt.item pat k==ofString "]")=(⟨#[c]⟩==ofString "]"))∧(Txt.item pat k != ofString "]")=(⟨#[c]⟩ != ofString "]"):=by
 refine rwg (h.item hk hc ..) ?_;exact ⟨rfl,rfl,rfl⟩
theorem cX4 {P:Params} {n:Nat} {base:List AO} {st:AV} {ks:List Nat} {σ:St} {K:AV→St→Prop} (hn:ks.length≤8) (hk:∀ k∈ks,k < 12)
  (hs:aY9 (gB base (aF8 P).tab (aF8 P).W) σ st=some (.list [.str (ofString "*")])) (hK:K (.obj σ.obj.length) ⟨σ.loc,σ.obj++[.list ((ks.foldl aC8 []).map (aE9 st))],σ.wd⟩) :
  aG6 (aF4 (aF8 P) (n + 2) base (.ref 109) [.str (aB1 (ks.map aA7)),st,.str (ofString ".")] σ K):=by
 have hplen:=bF4 hk;have hat:=At.whole (aB1 (ks.map aA7));have hat0:0 + (aB1 (ks.map aA7)).length=(aB1 (ks.map aA7)).length:=zero_add _;refine aL1 (in109 P) rfl rfl [(st,.list [.str (ofString "*")])] [.str (aB1 (ks.map aA7)),.par 0,.str (ofString ".")] [] [.list [.str (ofString "*")]] [(ofString "pat",.str (aB1 (ks.map aA7))),(ofString "STAR",.par 0),(ofString "QUESTION_MARK",.str (ofString "."))] [] rfl ?_ rfl rfl rfl rfl ?_
 ·intro p hp;obtain rfl:=mem_singleton.mp hp;exact (aA0 (_) (hs) (rfl))
 repeat (first | refine aZ0 ?_ | refine aH ?_)
 refine (?_:∃ _,_);refine (aA0 (some [ofString "i",ofString "n"]) (?_) (?_))
 ·intro env h;have h:env.scope=sc109:=h;cases env
  dsimp only at h
  subst h
  kernel_rfl
 repeat (first | refine aZ0 ?_ | refine aH ?_)
 refine ⟨by (clear hs hat0;lia),?_⟩
 repeat (first | refine aZ0 ?_ | refine aH ?_)
 refine ⟨TrI (aB1 (ks.map aA7)) (ks.foldl aC8 []) σ.wd,ks.length,⟨0,[],ks,hk,hat,hat0,rfl,by simpa using hn,rfl,rfl⟩,?_⟩;have hle:(aB1 (ks.map aA7)).length≤100:=by (clear hs hat0;lia)
 clear hat hat0 hplen;have hfl:=aN3 ks [];generalize aB1 (ks.map aA7)=pat at *;generalize ks.foldl aC8 []=fin at *;clear hk;rintro κ σ1 ⟨i,acc,rest,hr,hA,hi,hfin,hal,hκ,rfl⟩;refine aY8 (aC2 _ _ _) ?_;intro X hX;rcases rest with _ | ⟨k,r⟩
 ·have hi:i=pat.length:=by
   rw [← hi];refine (?_:i=i + (ofString "").length)
   rw [show (ofString "").length=0 by decide +kernel];rfl
  subst hi;obtain rfl:acc=fin:=hfin;have hend:decide ((pat.length:Int) < (pat.length:Int))=false:=decide_eq_false (Int.lt_irrefl _);have hq:((pat.length:Int)==(pat.length:Int))=true:=beq_self_eq_true _;refine aC3 hend ?_;refine And.intro (by exact congrArg AV.bool hq) ?_;refine aL (a':=.obj 0) (a'':=.obj σ.obj.length) [0] rfl rfl (os1:=[.list (acc.map (aE9 (.par 0)))]) (.cons (aJ0 acc) .nil) rfl rfl ?_ hK;rw [mapM_cons,dn_par acc];rfl
 ·have hk12:=hr k (.head _);have hr:∀ k∈r,k < 12:=fun j hj=>hr j (.tail _ hj);have hA1:At pat i (aA7 k):=At.left hA;have hA2:At pat (i + (aA7 k).length) (aB1 (r.map aA7)):=At.right hA;have hi:(i + (aA7 k).length) + (aB1 (r.map aA7)).length=pat.length:=by
   rw [← hi,Nat.add_assoc];refine (?_:_=i + (aA7 k++aB1 (r.map aA7)).length);(refine rwg (Str.length_append ..) ?_;rfl)
  have hfin:r.foldl aC8 (aC8 acc k)=fin:=hfin;have hal:acc.length + r.length + 1≤8:=hal;have hi2:=hA1.le;have hi3:=hA2.le;have hsz:(acc.map (aE9 (.par 0))).length≤sizeLine:=by (refine rwg (length_map ..) ?_;refine rwg (sizeLine_eq ..) ?_);(clear hn hs hle hfl hk12 hi hfin hal hi2 hi3;lia)
  have hst:=aR5 acc k;have hrl:(k::r).length=r.length + 1:=length_cons;have hpl:pat.length≤sizeLine:=by refine rwg (sizeLine_eq ..) ?_;(clear hn hs hfl hk12 hi hfin hal hi2 hi3 hsz hst hrl;lia)
  have hJ:∀ (x:Int) (ys:List AV),x=((i + (aA7 k).length:Nat):Int)→ys=(aC8 acc k).map (aE9 (.par 0))→∃ j,j < κ∧TrI pat fin σ.wd j ⟨[(ofString "pat",.str pat),(ofString "STAR",.par 0),(ofString "QUESTION_MARK",.str (ofString ".")),(ofString "res",.obj 0),(ofString "add",.obj 1),(ofString "n",.int pat.length),(ofString "i",.int x)],[.list ys,.bm (.obj 0),.tup [.int 0,.int pat.length]],σ.wd⟩ :=
   fun x ys hx hy=>⟨r.length,by refine rwg (hκ ..) ?_;exact lt_succ_self _,_,aC8 acc k,r,hr,hA2,hi,hfin,by (clear hn hs hle hfl hk12 hi hfin hi2 hi3 hsz hrl hpl hx hy;lia),rfl,dB7 hx hy⟩
  clear hA hA2 hfin hfl hs hK;have htx:=(bC5 hk12).2;have hl0:i + 0 < pat.length:=by lia
  have hlt:=aK4 (k:=(i:Int)) (Int.add_zero _).symm hl0;have hb0:=aK7 (k:=(i:Int)) (Int.add_zero _).symm hl0 hle;clear hl0;clear hi hr hi3 htx;clear hκ;refine aA4 hlt ?_;refine And.intro (by exact hb0) ?_;by_cases hk0:k=0
  ·subst hk0;have el:(aA7 0).length=1:=by decide +kernel
   have h1:(Txt.item pat i==ofString "*")=true:=by refine rwg (hA1.first (by decide) ..) ?_;decide +kernel
   refine aA4 h1 ?_;by_cases hne:acc=[]
   ·subst hne;refine And.intro (by decide +kernel) ?_;refine aA5 ?_;refine aM4 (by exact rfl) (by with_reducible assumption) ?_;apply hX;apply aB0 trK [];(case h=>rfl);(case hl=>rfl);(case hp=>rfl);(case ho=>repeat (first | exact .nil | (apply RenOs.cons;(case h=>first | exact aJ0 _ | exact aI2 _ _ rfl | rfl))));(case hJ=>exact hJ _ _ (by refine rwg (el ..) ?_;exact (Int.natCast_add ..).symm) rfl)
   ·obtain ⟨acc0,p,rfl⟩:∃ a p,acc=a++[p]:=(aT2 (_) (_) ((List.dropLast_concat_getLast hne).symm));have hie:((acc0++[p]).map (aE9 (.par 0))).isEmpty=false:=by simp
    have hml:((acc0++[p]).map (aE9 (.par 0))).length=acc0.length + 1:=by (refine rwg (length_map ..) ?_;refine rwg (List.length_append ..) ?_);rfl
    have hal2:acc0.length≤8:=by replace hal:=(List.length_append ..)▸hal;(clear hn hle hpl hlt hb0 hi hi2 hrl el h1 hsz hfin hst hne hie hml;lia)
    have hlast:((acc0++[p]).map (aE9 (.par 0)))[(if (-1:Int) < 0 then -1 + (((acc0++[p]).map (aE9 (.par 0))).length:Int) else -1).toNat]?=some (aE9 (.par 0) p):=by
     (refine rwg (if_pos (by decide) ..) ?_;refine rwg (hml ..) ?_;refine rwg (show ((-1:Int) + ((acc0.length + 1:Nat):Int)).toNat=acc0.length by (clear hn hle hpl hlt hb0 hi hi2 hrl el h1 hsz hfin hal hst hne hie hml hal2;lia)) ?_;refine rwg (map_append ..) ?_;refine rwg (getElem?_append_right (by rw [length_map];exact le_refl _) ..) ?_;refine rwg (length_map ..) ?_;refine rwg (sub_self ..) ?_);rfl
    have hbd:-(((((acc0++[p]).map (aE9 (.par 0))).length:Nat)):Int)≤-1∧(-1:Int) < ((((acc0++[p]).map (aE9 (.par 0))).length:Nat):Int)∧((acc0++[p]).map (aE9 (.par 0))).length≤16777216:=by refine rwg (hml ..) ?_;(clear hn hle hpl hlt hb0 hi hi2 hrl el h1 hsz hfin hal hst hne hie hml hlast;lia)
    have hll:((acc0++[p]).map (aE9 (.par 0))).length≤16777216:=hbd.2.2;clear hne hml;cases p with
    | star =>
     have ht:aC8 (acc0++[.star]) 0=acc0++[.star]:=by unfold aC8;(refine rwg (if_pos rfl ..) ?_;refine rwg (List.getLast?_concat ..) ?_;rfl)
     refine And.intro (by with_reducible assumption) ?_;refine rwg (hie ..) ?_;refine And.intro (by with_reducible assumption) ?_;refine (?_:aB4 _ _);refine aM9 hlast ?_;apply hX;apply aB0 trK [];(case h=>rfl);(case hl=>rfl);(case hp=>rfl);(case ho=>repeat (first | exact .nil | (apply RenOs.cons;(case h=>first | exact aJ0 _ | exact aI2 _ _ rfl | rfl))));(case hJ=>exact hJ _ _ (by refine rwg (el ..) ?_;exact (Int.natCast_add ..).symm) (by (refine rwg (ht ..) ?_;rfl)))
    | txt y =>
     have ht:aC8 (acc0++[.txt y]) 0=(acc0++[.txt y])++[.star]:=by unfold aC8;(refine rwg (if_pos rfl ..) ?_;refine rwg (List.getLast?_concat ..) ?_;rfl)
     refine And.intro (by with_reducible assumption) ?_;refine rwg (hie ..) ?_;refine And.intro (by with_reducible assumption) ?_;refine (?_:aB4 _ _);refine aM9 hlast ?_;refine aA5 ?_;refine aM4 (by exact rfl) (by with_reducible assumption) ?_;apply hX;apply aB0 trK [];(case h=>rfl);(case hl=>rfl);(case hp=>rfl);(case ho=>repeat (first | exact .nil | (apply RenOs.cons;(case h=>first | exact aJ0 _ | exact aI2 _ _ rfl | rfl))));(case hJ=>exact hJ _ _ (by refine rwg (el ..) ?_;exact (Int.natCast_add ..).symm) (by (refine rwg (ht ..) ?_;refine rwg (map_append (l₂:=[Part.star]) ..) ?_);rfl))
  have h1:=cY7 hA1 hk12 hk0;refine aC3 h1 ?_;by_cases hk1:k=1
  ·subst hk1;have el:(aA7 1).length=1:=by decide +kernel
   have h2:(Txt.item pat i==ofString "?")=true:=by refine rwg (hA1.first (by decide) ..) ?_;decide +kernel
   refine aA4 h2 ?_;refine aA5 ?_;refine aM4 (by exact rfl) (by with_reducible assumption) ?_;apply hX;apply aB0 trK [];(case h=>rfl);(case hl=>rfl);(case hp=>rfl);(case ho=>repeat (first | exact .nil | (apply RenOs.cons;(case h=>first | exact aJ0 _ | exact aI2 _ _ rfl | rfl))));(case hJ=>exact hJ _ _ (by refine rwg (el ..) ?_;exact (Int.natCast_add ..).symm) (aP9 (by decide) (by decide +kernel)))
  have h2:=cV4 hA1 hk12 hk1;refine aC3 h2 ?_;have hk:=((lt12k k hk12).resolve_left hk0).resolve_left hk1;clear hk12 hk0 hk1;rcases hk with hk | hk
  ·(refine aS2 (cU9 hA1 hk) ?_;intro no0 _ _ h3 he;obtain ⟨el,h0⟩:=no0)
   refine aC3 h3 ?_;refine aA5 ?_;refine aA5 ?_;refine cM9 he ?_;refine aM4 (by exact rfl) (by with_reducible assumption) ?_;apply hX;apply aB0 trK [];(case h=>rfl);(case hl=>rfl);(case hp=>rfl);(case ho=>repeat (first | exact .nil | (apply RenOs.cons;(case h=>first | exact aJ0 _ | exact aI2 _ _ rfl | rfl))));(case hJ=>exact hJ _ _ (by refine rwg (el ..) ?_;exact (Int.natCast_add ..).symm) (aP9 h0 rfl))
  clear hst hrl hi hfin;have h3:=(brk_ok hA1 hk).2.2;refine aA4 h3 ?_;refine aY8 (aE3 _ _) ?_;intro Y hY;rcases hk with rfl | rfl | rfl | rfl | rfl
  ·have el:(aA7 6).length=4:=by decide +kernel
   replace hi2:=(el ..)▸hi2;have d1:=aK4 (i1 _) (lt_of_lt_of_le (add_lt_add_left (by decide:1 < 4) i) hi2);have b1:=aK7 (i1 _) (lt_of_lt_of_le (add_lt_add_left (by decide:1 < 4) i) hi2) hle;have d2:=aK4 (i2 _) (lt_of_lt_of_le (add_lt_add_left (by decide:2 < 4) i) hi2);have b2:=aK7 (i2 _) (lt_of_lt_of_le (add_lt_add_left (by decide:2 < 4) i) hi2) hle;have d3:=aK4 (i3 _) (lt_of_lt_of_le (add_lt_add_left (by decide:3 < 4) i) hi2);have b3:=aK7 (i3 _) (lt_of_lt_of_le (add_lt_add_left (by decide:3 < 4) i) hi2) hle;have g3:=bZ0 (i3 _) (lt_of_lt_of_le (add_lt_add_left (by decide:3 < 4) i) hi2);have e1:(Txt.item pat ((i:Int) + 1)==ofString "!")=false:=(hA1.cls (j:=1) (c:=115) (i1 _) (by decide +kernel)).1.trans (by decide +kernel);have c1:(Txt.item pat ((i:Int) + 1)==ofString "]")=false:=(hA1.cls (j:=1) (c:=115) (i1 _) (by decide +kernel)).2.1.trans (by decide +kernel);have n1:(Txt.item pat ((i:Int) + 1) != ofString "]")=true:=(hA1.cls (j:=1) (c:=115) (i1 _) (by decide +kernel)).2.2.trans (by decide +kernel);have n2:(Txt.item pat ((i:Int) + 1 + 1) != ofString "]")=true:=(hA1.cls (j:=2) (c:=116) (i2 _) (by decide +kernel)).2.2.trans (by decide +kernel);have n3:(Txt.item pat ((i:Int) + 1 + 1 + 1) != ofString "]")=false:=(hA1.cls (j:=3) (c:=93) (i3 _) (by decide +kernel)).2.2.trans (by decide +kernel);clear hi2 hal;have hs0:Txt.slice pat (some ((i:Int) + 1)) (some ((i:Int) + 1 + 1 + 1))=ofString "st":=(hA1.slice (j1:=1) (j2:=3) (i1 _) (i3 _) (by decide) (by decide +kernel)).trans (by decide +kernel);refine aA4 d1 ?_;refine And.intro (by with_reducible assumption) ?_;refine aC3 e1 ?_;refine aA4 d1 ?_;refine And.intro (by with_reducible assumption) ?_;refine aC3 c1 ?_;refine bD0 6 ?_;refine aA4 d1 ?_;refine And.intro (by with_reducible assumption) ?_;refine aA4 n1 ?_;refine aP7 ?_;refine aA4 d2 ?_;refine And.intro (by with_reducible assumption) ?_;refine aA4 n2 ?_;refine aP7 ?_;refine aA4 d3 ?_;refine And.intro (by with_reducible assumption) ?_;refine aC3 n3 ?_;refine aC3 g3 ?_;refine And.intro (by with_reducible assumption) ?_;refine rwg (hs0 ..) ?_;refine aA4 (by decide +kernel) ?_;refine aC9 ?_;refine and6 (by decide +kernel) (by (with_reducible refine (?_:bM3 _=_));with_unfolding_all rfl) (by exact rfl) (by decide +kernel) (by decide +kernel) (by decide +kernel) ?_;refine aC9 ?_;refine aA5 ?_;refine and6 (by decide +kernel) (by decide +kernel) (by decide +kernel) (by decide +kernel) (by exact rfl) (by with_reducible assumption) ?_;apply hY;apply hX;apply aB0 trK [];(case h=>rfl);(case hl=>rfl);(case hp=>rfl);(case ho=>repeat (first | exact .nil | (apply RenOs.cons;(case h=>first | exact aJ0 _ | exact aI2 _ _ rfl | rfl))));(case hJ=>exact hJ _ _ (by refine rwg (el ..) ?_;exact (i4 _).trans (Int.natCast_add ..).symm) (aP9 (by decide) (by decide +kernel)))
  ·have el:(aA7 7).length=4:=by decide +kernel
   replace hi2:=(el ..)▸hi2;have d1:=aK4 (i1 _) (lt_of_lt_of_le (add_lt_add_left (by decide:1 < 4) i) hi2);have b1:=aK7 (i1 _) (lt_of_lt_of_le (add_lt_add_left (by decide:1 < 4) i) hi2) hle;have d2:=aK4 (i2 _) (lt_of_lt_of_le (add_lt_add_left (by decide:2 < 4) i) hi2);have b2:=aK7 (i2 _) (lt_of_lt_of_le (add_lt_add_left (by decide:2 < 4) i) hi2) hle;have d3:=aK4 (i3 _) (lt_of_lt_of_le (add_lt_add_left (by decide:3 < 4) i) hi2);have b3:=aK7 (i3 _) (lt_of_lt_of_le (add_lt_add_left (by decide:3 < 4) i) hi2) hle;have g3:=bZ0 (i3 _) (lt_of_lt_of_le (add_lt_add_left (by decide:3 < 4) i) hi2);have e1:(Txt.item pat ((i:Int) + 1)==ofString "!")=true:=(hA1.cls (j:=1) (c:=33) (i1 _) (by decide +kernel)).1.trans (by decide +kernel);have c2:(Txt.item pat ((i:Int) + 1 + 1)==ofString "]")=false:=(hA1.cls (j:=2) (c:=45) (i2 _) (by decide +kernel)).2.1.trans (by decide +kernel);have n2:(Txt.item pat ((i:Int) + 1 + 1) != ofString "]")=true:=(hA1.cls (j:=2) (c:=45) (i2 _) (by decide +kernel)).2.2.trans (by decide +kernel);have n3:(Txt.item pat ((i:Int) + 1 + 1 + 1) != ofString "]")=false:=(hA1.cls (j:=3) (c:=93) (i3 _) (by decide +kernel)).2.2.trans (by decide +kernel);clear hi2 hal;have hs0:Txt.slice pat (some ((i:Int) + 1)) (some ((i:Int) + 1 + 1 + 1))=ofString "!-":=(hA1.slice (j1:=1) (j2:=3) (i1 _) (i3 _) (by decide) (by decide +kernel)).trans (by decide +kernel);have hk0:(if (Txt.item pat ((i:Int) + 1)==ofString "!")=true then (i:Int) + 1 + 2 else (i:Int) + 1 + 1)=(i:Int) + 1 + 2:=by refine rwg (e1 ..) ?_;rfl
   have hf0:aF6 pat (ofString "-") ((i:Int) + 1 + 2) ((i:Int) + 1 + 1 + 1)=-1:=by refine rwg (show ofString "-"=⟨#[45]⟩ by decide +kernel) ?_;exact aQ8 (by (clear hn hle hal hsz hpl hlt hb0 el h1 h2 h3 d1 b1 d2 b2 d3 b3 g3 e1 c2 n2 n3 hs0 hk0;lia)) (by (clear hn hle hal hsz hpl hlt hb0 el h1 h2 h3 d1 b1 d2 b2 d3 b3 g3 e1 c2 n2 n3 hs0 hk0;lia))
   have f0:decide (aF6 pat (ofString "-") ((i:Int) + 1 + 2) ((i:Int) + 1 + 1 + 1) < 0)=true:=by refine rwg (hf0 ..) ?_;rfl
   refine aA4 d1 ?_;refine And.intro (by with_reducible assumption) ?_;refine aA4 e1 ?_;refine aA4 d2 ?_;refine And.intro (by with_reducible assumption) ?_;refine aC3 c2 ?_;refine bD0 6 ?_;refine aA4 d2 ?_;refine And.intro (by with_reducible assumption) ?_;refine aA4 n2 ?_;refine aP7 ?_;refine aA4 d3 ?_;refine And.intro (by with_reducible assumption) ?_;refine aC3 n3 ?_;refine aC3 g3 ?_;refine And.intro (by with_reducible assumption) ?_;refine rwg (hs0 ..) ?_;refine aC3 (by decide +kernel) ?_;refine aH ?_;refine And.intro (by with_reducible assumption) ?_;refine aA4 e1 ?_;refine bD0 6 ?_;refine aC7 ?_;refine aA4 f0 ?_;refine rwg (hf0 ..) ?_;refine And.intro (by with_reducible assumption) ?_;refine rwg (hs0 ..) ?_;refine And.intro (by decide +kernel) ?_;refine aA5 ?_;refine And.intro (by decide +kernel) ?_;refine aC7 ?_;refine aA5 ?_;refine cM0 (by decide +kernel) (by decide +kernel) (by decide +kernel) ?_;refine bF9 ?_;refine And.intro (by (with_reducible refine (?_:bC _=_));with_unfolding_all rfl) ?_;refine (aA0 ([ofString "!\\-"]) (⟨by decide +kernel,by decide +kernel⟩) (?_));refine and6 (by (with_reducible refine (?_:bM3 _=_));with_unfolding_all rfl) (by exact rfl) (by decide +kernel) (by decide +kernel) (by decide +kernel) (by decide +kernel) ?_;refine aA5 ?_;refine and6 (by decide +kernel) (by decide +kernel) (by decide +kernel) (by decide +kernel) (by exact rfl) (by with_reducible assumption) ?_;apply hY;apply hX;apply aB0 trK [];(case h=>rfl);(case hl=>rfl);(case hp=>rfl);(case ho=>repeat (first | exact .nil | (apply RenOs.cons;(case h=>first | exact aJ0 _ | exact aI2 _ _ rfl | rfl))));(case hJ=>exact hJ _ _ (by refine rwg (el ..) ?_;exact (i4 _).trans (Int.natCast_add ..).symm) (aP9 (by decide) (by decide +kernel)))
  ·have el:(aA7 9).length=5:=by decide +kernel
   replace hi2:=(el ..)▸hi2;have d1:=aK4 (i1 _) (lt_of_lt_of_le (add_lt_add_left (by decide:1 < 5) i) hi2);have b1:=aK7 (i1 _) (lt_of_lt_of_le (add_lt_add_left (by decide:1 < 5) i) hi2) hle;have d2:=aK4 (i2 _) (lt_of_lt_of_le (add_lt_add_left (by decide:2 < 5) i) hi2);have b2:=aK7 (i2 _) (lt_of_lt_of_le (add_lt_add_left (by decide:2 < 5) i) hi2) hle;have d3:=aK4 (i3 _) (lt_of_lt_of_le (add_lt_add_left (by decide:3 < 5) i) hi2);have b3:=aK7 (i3 _) (lt_of_lt_of_le (add_lt_add_left (by decide:3 < 5) i) hi2) hle;have d4:=aK4 (i4 _) (lt_of_lt_of_le (add_lt_add_left (by decide:4 < 5) i) hi2);have b4:=aK7 (i4 _) (lt_of_lt_of_le (add_lt_add_left (by decide:4 < 5) i) hi2) hle;have g4:=bZ0 (i4 _) (lt_of_lt_of_le (add_lt_add_left (by decide:4 < 5) i) hi2);have e1:(Txt.item pat ((i:Int) + 1)==ofString "!")=false:=(hA1.cls (j:=1) (c:=114) (i1 _) (by decide +kernel)).1.trans (by decide +kernel);have c1:(Txt.item pat ((i:Int) + 1)==ofString "]")=false:=(hA1.cls (j:=1) (c:=114) (i1 _) (by decide +kernel)).2.1.trans (by decide +kernel);have n1:(Txt.item pat ((i:Int) + 1) != ofString "]")=true:=(hA1.cls (j:=1) (c:=114) (i1 _) (by decide +kernel)).2.2.trans (by decide +kernel);have n2:(Txt.item pat ((i:Int) + 1 + 1) != ofString "]")=true:=(hA1.cls (j:=2) (c:=45) (i2 _) (by decide +kernel)).2.2.trans (by decide +kernel);have n3:(Txt.item pat ((i:Int) + 1 + 1 + 1) != ofString "]")=true:=(hA1.cls (j:=3) (c:=120) (i3 _) (by decide +kernel)).2.2.trans (by decide +kernel);have n4:(Txt.item pat ((i:Int) + 1 + 1 + 1 + 1) != ofString "]")=false:=(hA1.cls (j:=4) (c:=93) (i4 _) (by decide +kernel)).2.2.trans (by decide +kernel);clear hi2 hal;have hs0:Txt.slice pat (some ((i:Int) + 1)) (some ((i:Int) + 1 + 1 + 1 + 1))=ofString "r-x":=(hA1.slice (j1:=1) (j2:=4) (i1 _) (i4 _) (by decide) (by decide +kernel)).trans (by decide +kernel);have hk0:(if (Txt.item pat ((i:Int) + 1)==ofString "!")=true then (i:Int) + 1 + 2 else (i:Int) + 1 + 1)=(i:Int) + 1 + 1:=by refine rwg (e1 ..) ?_;rfl
   have hf0:aF6 pat (ofString "-") ((i:Int) + 1 + 1) ((i:Int) + 1 + 1 + 1 + 1)=(i:Int) + 1 + 1:=by refine rwg (show ofString "-"=⟨#[45]⟩ by decide +kernel) ?_;exact bG3 (jn:=2) hA1 (i2 _) (by decide +kernel) (by (clear hn hle hal hsz hpl hlt hb0 el h1 h2 h3 d1 b1 d2 b2 d3 b3 d4 b4 g4 e1 c1 n1 n2 n3 n4 hs0 hk0;lia))
   have hf1:aF6 pat (ofString "-") ((i:Int) + 1 + 1 + 3) ((i:Int) + 1 + 1 + 1 + 1)=-1:=by refine rwg (show ofString "-"=⟨#[45]⟩ by decide +kernel) ?_;exact aQ8 (by (clear hn hle hal hsz hpl hlt hb0 el h1 h2 h3 d1 b1 d2 b2 d3 b3 d4 b4 g4 e1 c1 n1 n2 n3 n4 hs0 hk0 hf0;lia)) (by (clear hn hle hal hsz hpl hlt hb0 el h1 h2 h3 d1 b1 d2 b2 d3 b3 d4 b4 g4 e1 c1 n1 n2 n3 n4 hs0 hk0 hf0;lia))
   have f0:decide (aF6 pat (ofString "-") ((i:Int) + 1 + 1) ((i:Int) + 1 + 1 + 1 + 1) < 0)=false:=by refine rwg (hf0 ..) ?_;exact decide_eq_false (by (clear hn hle hal hsz hpl hlt hb0 el h1 h2 h3 d1 b1 d2 b2 d3 b3 d4 b4 g4 e1 c1 n1 n2 n3 n4 hs0 hk0 hf0 hf1;lia))
   have f1:decide (aF6 pat (ofString "-") ((i:Int) + 1 + 1 + 3) ((i:Int) + 1 + 1 + 1 + 1) < 0)=true:=by refine rwg (hf1 ..) ?_;rfl
   have hs1:Txt.slice pat (some ((i:Int) + 1)) (some ((i:Int) + 1 + 1))=ofString "r":=(hA1.slice (j1:=1) (j2:=2) (i1 _) (i2 _) (by decide) (by decide +kernel)).trans (by decide +kernel);have hs2:Txt.slice pat (some ((i:Int) + 1 + 1 + 1)) (some ((i:Int) + 1 + 1 + 1 + 1))=ofString "x":=(hA1.slice (j1:=3) (j2:=4) (i3 _) (i4 _) (by decide) (by decide +kernel)).trans (by decide +kernel);refine aA4 d1 ?_;refine And.intro (by with_reducible assumption) ?_;refine aC3 e1 ?_;refine aA4 d1 ?_;refine And.intro (by with_reducible assumption) ?_;refine aC3 c1 ?_;refine bD0 6 ?_;refine aA4 d1 ?_;refine And.intro (by with_reducible assumption) ?_;refine aA4 n1 ?_;refine aP7 ?_;refine aA4 d2 ?_;refine And.intro (by with_reducible assumption) ?_;refine aA4 n2 ?_;refine aP7 ?_;refine aA4 d3 ?_;refine And.intro (by with_reducible assumption) ?_;refine aA4 n3 ?_;refine aP7 ?_;refine aA4 d4 ?_;refine And.intro (by with_reducible assumption) ?_;refine aC3 n4 ?_;refine aC3 g4 ?_;refine And.intro (by with_reducible assumption) ?_;refine rwg (hs0 ..) ?_;refine aC3 (by decide +kernel) ?_;refine aH ?_;refine And.intro (by with_reducible assumption) ?_;refine aC3 e1 ?_;refine bD0 6 ?_;refine aC7 ?_;refine aC3 f0 ?_;refine rwg (hf0 ..) ?_;refine aA5 ?_;refine And.intro (by with_reducible assumption) ?_;refine rwg (hs1 ..) ?_;refine And.intro (by decide +kernel) ?_;refine aP7 ?_;refine aC7 ?_;refine aA4 f1 ?_;refine rwg (hf1 ..) ?_;refine And.intro (by with_reducible assumption) ?_;refine rwg (hs2 ..) ?_;refine And.intro (by decide +kernel) ?_;refine aA5 ?_;refine And.intro (by decide +kernel) ?_;refine aC7 ?_;refine aA5 ?_;refine cM0 (by decide +kernel) (by decide +kernel) (by decide +kernel) ?_;refine bF9 ?_;refine and4 (by decide +kernel) (by decide +kernel) (by decide +kernel) (by decide +kernel) ?_;refine dA8 ?_;refine And.intro (by (with_reducible refine (?_:bC _=_));with_unfolding_all rfl) ?_;refine (aA0 ([ofString "r",ofString "x"]) (⟨by decide +kernel,by decide +kernel⟩) (?_));refine and5 (by (with_reducible refine (?_:bM3 _=_));with_unfolding_all rfl) (by exact rfl) (by decide +kernel) (by decide +kernel) (by decide +kernel) ?_;refine aC9 ?_;refine aA5 ?_;refine and6 (by decide +kernel) (by decide +kernel) (by decide +kernel) (by decide +kernel) (by exact rfl) (by with_reducible assumption) ?_;apply hY;apply hX;apply aB0 trK [];(case h=>rfl);(case hl=>rfl);(case hp=>rfl);(case ho=>repeat (first | exact .nil | (apply RenOs.cons;(case h=>first | exact aJ0 _ | exact aI2 _ _ rfl | rfl))));(case hJ=>exact hJ _ _ (by refine rwg (el ..) ?_;exact (i5 _).trans (Int.natCast_add ..).symm) (aP9 (by decide) (by decide +kernel)))
  ·have el:(aA7 10).length=5:=by decide +kernel
   replace hi2:=(el ..)▸hi2;have d1:=aK4 (i1 _) (lt_of_lt_of_le (add_lt_add_left (by decide:1 < 5) i) hi2);have b1:=aK7 (i1 _) (lt_of_lt_of_le (add_lt_add_left (by decide:1 < 5) i) hi2) hle;have d2:=aK4 (i2 _) (lt_of_lt_of_le (add_lt_add_left (by decide:2 < 5) i) hi2);have b2:=aK7 (i2 _) (lt_of_lt_of_le (add_lt_add_left (by decide:2 < 5) i) hi2) hle;have d3:=aK4 (i3 _) (lt_of_lt_of_le (add_lt_add_left (by decide:3 < 5) i) hi2);have b3:=aK7 (i3 _) (lt_of_lt_of_le (add_lt_add_left (by decide:3 < 5) i) hi2) hle;have d4:=aK4 (i4 _) (lt_of_lt_of_le (add_lt_add_left (by decide:4 < 5) i) hi2);have b4:=aK7 (i4 _) (lt_of_lt_of_le (add_lt_add_left (by decide:4 < 5) i) hi2) hle;have g4:=bZ0 (i4 _) (lt_of_lt_of_le (add_lt_add_left (by decide:4 < 5) i) hi2);have e1:(Txt.item pat ((i:Int) + 1)==ofString "!")=false:=(hA1.cls (j:=1) (c:=120) (i1 _) (by decide +kernel)).1.trans (by decide +kernel);have c1:(Txt.item pat ((i:Int) + 1)==ofString "]")=false:=(hA1.cls (j:=1) (c:=120) (i1 _) (by decide +kernel)).2.1.trans (by decide +kernel);have n1:(Txt.item pat ((i:Int) + 1) != ofString "]")=true:=(hA1.cls (j:=1) (c:=120) (i1 _) (by decide +kernel)).2.2.trans (by decide +kernel);have n2:(Txt.item pat ((i:Int) + 1 + 1) != ofString "]")=true:=(hA1.cls (j:=2) (c:=45) (i2 _) (by decide +kernel)).2.2.trans (by decide +kernel);have n3:(Txt.item pat ((i:Int) + 1 + 1 + 1) != ofString "]")=true:=(hA1.cls (j:=3) (c:=114) (i3 _) (by decide +kernel)).2.2.trans (by decide +kernel);have n4:(Txt.item pat ((i:Int) + 1 + 1 + 1 + 1) != ofString "]")=false:=(hA1.cls (j:=4) (c:=93) (i4 _) (by decide +kernel)).2.2.trans (by decide +kernel);clear hi2 hal;have hs0:Txt.slice pat (some ((i:Int) + 1)) (some ((i:Int) + 1 + 1 + 1 + 1))=ofString "x-r":=(hA1.slice (j1:=1) (j2:=4) (i1 _) (i4 _) (by decide) (by decide +kernel)).trans (by decide +kernel);have hk0:(if (Txt.item pat ((i:Int) + 1)==ofString "!")=true then (i:Int) + 1 + 2 else (i:Int) + 1 + 1)=(i:Int) + 1 + 1:=by refine rwg (e1 ..) ?_;rfl
   have hf0:aF6 pat (ofString "-") ((i:Int) + 1 + 1) ((i:Int) + 1 + 1 + 1 + 1)=(i:Int) + 1 + 1:=by refine rwg (show ofString "-"=⟨#[45]⟩ by decide +kernel) ?_;exact bG3 (jn:=2) hA1 (i2 _) (by decide +kernel) (by omega)
   have hf1:aF6 pat (ofString "-") ((i:Int) + 1 + 1 + 3) ((i:Int) + 1 + 1 + 1 + 1)=-1:=by refine rwg (show ofString "-"=⟨#[45]⟩ by decide +kernel) ?_;exact aQ8 (by omega) (by omega)
   have f0:decide (aF6 pat (ofString "-") ((i:Int) + 1 + 1) ((i:Int) + 1 + 1 + 1 + 1) < 0)=false:=by refine rwg (hf0 ..) ?_;exact decide_eq_false (by omega)
   have f1:decide (aF6 pat (ofString "-") ((i:Int) + 1 + 1 + 3) ((i:Int) + 1 + 1 + 1 + 1) < 0)=true:=by refine rwg (hf1 ..) ?_;rfl
   have hs1:Txt.slice pat (some ((i:Int) + 1)) (some ((i:Int) + 1 + 1))=ofString "x":=(hA1.slice (j1:=1) (j2:=2) (i1 _) (i2 _) (by decide) (by decide +kernel)).trans (by decide +kernel);have hs2:Txt.slice pat (some ((i:Int) + 1 + 1 + 1)) (some ((i:Int) + 1 + 1 + 1 + 1))=ofString "r":=(hA1.slice (j1:=3) (j2:=4) (i3 _) (i4 _) (by decide) (by decide +kernel)).trans (by decide +kernel);refine aA4 d1 ?_;refine And.intro (by with_reducible assumption) ?_;refine aC3 e1 ?_;refine aA4 d1 ?_;refine And.intro (by with_reducible assumption) ?_;refine aC3 c1 ?_;refine bD0 6 ?_;refine aA4 d1 ?_;refine And.intro (by with_reducible assumption) ?_;refine aA4 n1 ?_;refine aP7 ?_;refine aA4 d2 ?_;refine And.intro (by with_reducible assumption) ?_;refine aA4 n2 ?_;refine aP7 ?_;refine aA4 d3 ?_;refine And.intro (by with_reducible assumption) ?_;refine aA4 n3 ?_;refine aP7 ?_;refine aA4 d4 ?_;refine And.intro (by with_reducible assumption) ?_;refine aC3 n4 ?_;refine aC3 g4 ?_;refine And.intro (by with_reducible assumption) ?_;refine rwg (hs0 ..) ?_;refine aC3 (by decide +kernel) ?_;refine aH ?_;refine And.intro (by with_reducible assumption) ?_;refine aC3 e1 ?_;refine bD0 6 ?_;refine aC7 ?_;refine aC3 f0 ?_;refine rwg (hf0 ..) ?_;refine aA5 ?_;refine And.intro (by with_reducible assumption) ?_;refine rwg (hs1 ..) ?_;refine And.intro (by decide +kernel) ?_;refine aP7 ?_;refine aC7 ?_;refine aA4 f1 ?_;refine rwg (hf1 ..) ?_;refine And.intro (by with_reducible assumption) ?_;refine rwg (hs2 ..) ?_;refine And.intro (by decide +kernel) ?_;refine aA5 ?_;refine And.intro (by decide +kernel) ?_;refine aC7 ?_;refine aA5 ?_;refine cM0 (by decide +kernel) (by decide +kernel) (by decide +kernel) ?_;refine bF9 ?_;refine and10 (by decide +kernel) (by decide +kernel) (by decide +kernel) (by decide +kernel) (by decide +kernel) (by decide +kernel) (by decide +kernel) (by decide +kernel) (by decide +kernel) (by decide +kernel) ?_;refine And.intro (by decide +kernel) ?_;refine dA8 ?_;refine And.intro (by (with_reducible refine (?_:bC _=_));with_unfolding_all rfl) ?_;refine (aA0 ([ofString ""]) (⟨by decide +kernel,by decide +kernel⟩) (?_));refine cM0 (by (with_reducible refine (?_:bM3 _=_));with_unfolding_all rfl) (by exact rfl) (by decide +kernel) ?_;refine aA5 ?_;refine aM4 (by exact rfl) (by with_reducible assumption) ?_;apply hY;apply hX;apply aB0 trK [];(case h=>rfl);(case hl=>rfl);(case hp=>rfl);(case ho=>repeat (first | exact .nil | (apply RenOs.cons;(case h=>first | exact aJ0 _ | exact aI2 _ _ rfl | rfl))));(case hJ=>exact hJ _ _ (by refine rwg (el ..) ?_;exact (i5 _).trans (Int.natCast_add ..).symm) (aP9 (by decide) (by decide +kernel)))
  ·have el:(aA7 11).length=6:=by decide +kernel
   replace hi2:=(el ..)▸hi2;have d1:=aK4 (i1 _) (lt_of_lt_of_le (add_lt_add_left (by decide:1 < 6) i) hi2);have b1:=aK7 (i1 _) (lt_of_lt_of_le (add_lt_add_left (by decide:1 < 6) i) hi2) hle;have d2:=aK4 (i2 _) (lt_of_lt_of_le (add_lt_add_left (by decide:2 < 6) i) hi2);have b2:=aK7 (i2 _) (lt_of_lt_of_le (add_lt_add_left (by decide:2 < 6) i) hi2) hle;have d3:=aK4 (i3 _) (lt_of_lt_of_le (add_lt_add_left (by decide:3 < 6) i) hi2);have b3:=aK7 (i3 _) (lt_of_lt_of_le (add_lt_add_left (by decide:3 < 6) i) hi2) hle;have d4:=aK4 (i4 _) (lt_of_lt_of_le (add_lt_add_left (by decide:4 < 6) i) hi2);have b4:=aK7 (i4 _) (lt_of_lt_of_le (add_lt_add_left (by decide:4 < 6) i) hi2) hle;have d5:=aK4 (i5 _) (lt_of_lt_of_le (add_lt_add_left (by decide:5 < 6) i) hi2);have b5:=aK7 (i5 _) (lt_of_lt_of_le (add_lt_add_left (by decide:5 < 6) i) hi2) hle;have g5:=bZ0 (i5 _) (lt_of_lt_of_le (add_lt_add_left (by decide:5 < 6) i) hi2);have e1:(Txt.item pat ((i:Int) + 1)==ofString "!")=true:=(hA1.cls (j:=1) (c:=33) (i1 _) (by decide +kernel)).1.trans (by decide +kernel);have c2:(Txt.item pat ((i:Int) + 1 + 1)==ofString "]")=false:=(hA1.cls (j:=2) (c:=120) (i2 _) (by decide +kernel)).2.1.trans (by decide +kernel);have n2:(Txt.item pat ((i:Int) + 1 + 1) != ofString "]")=true:=(hA1.cls (j:=2) (c:=120) (i2 _) (by decide +kernel)).2.2.trans (by decide +kernel);have n3:(Txt.item pat ((i:Int) + 1 + 1 + 1) != ofString "]")=true:=(hA1.cls (j:=3) (c:=45) (i3 _) (by decide +kernel)).2.2.trans (by decide +kernel);have n4:(Txt.item pat ((i:Int) + 1 + 1 + 1 + 1) != ofString "]")=true:=(hA1.cls (j:=4) (c:=114) (i4 _) (by decide +kernel)).2.2.trans (by decide +kernel);have n5:(Txt.item pat ((i:Int) + 1 + 1 + 1 + 1 + 1) != ofString "]")=false:=(hA1.cls (j:=5) (c:=93) (i5 _) (by decide +kernel)).2.2.trans (by decide +kernel);clear hi2 hal;have hs0:Txt.slice pat (some ((i:Int) + 1)) (some ((i:Int) + 1 + 1 + 1 + 1 + 1))=ofString "!x-r":=(hA1.slice (j1:=1) (j2:=5) (i1 _) (i5 _) (by decide) (by decide +kernel)).trans (by decide +kernel);have hk0:(if (Txt.item pat ((i:Int) + 1)==ofString "!")=true then (i:Int) + 1 + 2 else (i:Int) + 1 + 1)=(i:Int) + 1 + 2:=by refine rwg (e1 ..) ?_;rfl
   have hf0:aF6 pat (ofString "-") ((i:Int) + 1 + 2) ((i:Int) + 1 + 1 + 1 + 1 + 1)=(i:Int) + 1 + 2:=by refine rwg (show ofString "-"=⟨#[45]⟩ by decide +kernel) ?_;exact bG3 (jn:=3) hA1 (by (clear hn hle hal hsz hpl hlt hb0 el h1 h2 h3 d1 b1 d2 b2 d3 b3 d4 b4 d5 b5 g5 e1 c2 n2 n3 n4 n5 hs0 hk0;lia)) (by decide +kernel) (by (clear hn hle hal hsz hpl hlt hb0 el h1 h2 h3 d1 b1 d2 b2 d3 b3 d4 b4 d5 b5 g5 e1 c2 n2 n3 n4 n5 hs0 hk0;lia))
   have hf1:aF6 pat (ofString "-") ((i:Int) + 1 + 2 + 3) ((i:Int) + 1 + 1 + 1 + 1 + 1)=-1:=by refine rwg (show ofString "-"=⟨#[45]⟩ by decide +kernel) ?_;exact aQ8 (by (clear hn hle hal hsz hpl hlt hb0 el h1 h2 h3 d1 b1 d2 b2 d3 b3 d4 b4 d5 b5 g5 e1 c2 n2 n3 n4 n5 hs0 hk0 hf0;lia)) (by (clear hn hle hal hsz hpl hlt hb0 el h1 h2 h3 d1 b1 d2 b2 d3 b3 d4 b4 d5 b5 g5 e1 c2 n2 n3 n4 n5 hs0 hk0 hf0;lia))
   have f0:decide (aF6 pat (ofString "-") ((i:Int) + 1 + 2) ((i:Int) + 1 + 1 + 1 + 1 + 1) < 0)=false:=by refine rwg (hf0 ..) ?_;exact decide_eq_false (by (clear hn hle hal hsz hpl hlt hb0 el h1 h2 h3 d1 b1 d2 b2 d3 b3 d4 b4 d5 b5 g5 e1 c2 n2 n3 n4 n5 hs0 hk0 hf0 hf1;lia))
   have f1:decide (aF6 pat (ofString "-") ((i:Int) + 1 + 2 + 3) ((i:Int) + 1 + 1 + 1 + 1 + 1) < 0)=true:=by refine rwg (hf1 ..) ?_;rfl
   have hs1:Txt.slice pat (some ((i:Int) + 1)) (some ((i:Int) + 1 + 2))=ofString "!x":=(hA1.slice (j1:=1) (j2:=3) rfl (by omega) (by decide) (by decide +kernel)).trans (by decide +kernel);have hs2:Txt.slice pat (some ((i:Int) + 1 + 2 + 1)) (some ((i:Int) + 1 + 1 + 1 + 1 + 1))=ofString "r":=(hA1.slice (j1:=4) (j2:=5) (by (clear hn hle hal hsz hpl hlt hb0 el h1 h2 h3 d1 b1 d2 b2 d3 b3 d4 b4 d5 b5 g5 e1 c2 n2 n3 n4 n5 hs0 hk0 hf0 hf1 f0 f1 hs1;lia)) (i5 _) (by decide) (by decide +kernel)).trans (by decide +kernel);refine aA4 d1 ?_;refine And.intro (by with_reducible assumption) ?_;refine aA4 e1 ?_;refine aA4 d2 ?_;refine And.intro (by with_reducible assumption) ?_;refine aC3 c2 ?_;refine bD0 6 ?_;refine aA4 d2 ?_;refine And.intro (by with_reducible assumption) ?_;refine aA4 n2 ?_;refine aP7 ?_;refine aA4 d3 ?_;refine And.intro (by with_reducible assumption) ?_;refine aA4 n3 ?_;refine aP7 ?_;refine aA4 d4 ?_;refine And.intro (by with_reducible assumption) ?_;refine aA4 n4 ?_;refine aP7 ?_;refine aA4 d5 ?_;refine And.intro (by with_reducible assumption) ?_;refine aC3 n5 ?_;refine aC3 g5 ?_;refine And.intro (by with_reducible assumption) ?_;refine rwg (hs0 ..) ?_;refine aC3 (by decide +kernel) ?_;refine aH ?_;refine And.intro (by with_reducible assumption) ?_;refine aA4 e1 ?_;refine bD0 6 ?_;refine aC7 ?_;refine aC3 f0 ?_;refine rwg (hf0 ..) ?_;refine aA5 ?_;refine And.intro (by with_reducible assumption) ?_;refine rwg (hs1 ..) ?_;refine And.intro (by decide +kernel) ?_;refine aP7 ?_;refine aC7 ?_;refine aA4 f1 ?_;refine rwg (hf1 ..) ?_;refine And.intro (by with_reducible assumption) ?_;refine rwg (hs2 ..) ?_;refine And.intro (by decide +kernel) ?_;refine aA5 ?_;refine And.intro (by decide +kernel) ?_;refine aC7 ?_;refine aA5 ?_;refine cM0 (by decide +kernel) (by decide +kernel) (by decide +kernel) ?_;refine bF9 ?_;refine and10 (by decide +kernel) (by decide +kernel) (by decide +kernel) (by decide +kernel) (by decide +kernel) (by decide +kernel) (by decide +kernel) (by decide +kernel) (by decide +kernel) (by decide +kernel) ?_;refine And.intro (by decide +kernel) ?_;refine dA8 ?_;refine And.intro (by (with_reducible refine (?_:bC _=_));with_unfolding_all rfl) ?_;refine (aA0 ([ofString "!"]) (⟨by decide +kernel,by decide +kernel⟩) (?_));refine cM0 (by (with_reducible refine (?_:bM3 _=_));with_unfolding_all rfl) (by exact rfl) (by decide +kernel) ?_;refine aA5 ?_;refine aM4 (by exact rfl) (by with_reducible assumption) ?_;apply hY;apply hX;apply aB0 trK [];(case h=>rfl);(case hl=>rfl);(case hp=>rfl);(case ho=>repeat (first | exact .nil | (apply RenOs.cons;(case h=>first | exact aJ0 _ | exact aI2 _ _ rfl | rfl))));(case hJ=>exact hJ _ _ (by refine rwg (el ..) ?_;exact (i6 _).trans (Int.natCast_add ..).symm) (aP9 (by decide) (by decide +kernel)))
noncomputable def tkA (pat sg:Str) (ps:List Part) (zs:List Int) (wd:Wd):St:=⟨[(ofString "pattern",.str pat),(ofString "signs",.str sg),(ofString "places",.obj 1),(ofString "star",.obj 0)],.list [.str (ofString "*")]::.list (zs.map .int)::.tup [.obj 0,.obj 1]::.list (ps.map (aE9 (.obj 0)))::[],wd⟩
noncomputable def tkB (sg:Str) (ps:List Part) (ws zs:List Int) (wd:Wd):St:=⟨[(ofString "signs",.str sg),(ofString "star",.obj 0),(ofString "places",.obj 4)],.list [.str (ofString "*")]::.list (ws.map .int)::.tup [.obj 0,.obj 1]::.list (ps.map (aE9 (.obj 0)))::[.list (zs.map .int)],wd⟩
noncomputable def tkK:List Str:=[ofString "signs",ofString "star",ofString "places"]
theorem aI9 {sg:Str} {ps:List Part} {ws zs ys:List Int} {wd:Wd} (h:ys=zs):(⟨[(ofString "signs",.str sg),(ofString "star",.obj 0),(ofString "places",.obj 4)],.list [.str (ofString "*")]::.list (ws.map .int)::.tup [.obj 0,.obj 1]::.list (ps.map (aE9 (.obj 0)))::[.list (zs.map .int)],wd⟩:St)=tkB sg ps ws ys wd:=by subst h;rfl
noncomputable def bT2 (sg x:Str) (zs:List Int):List Int:=if (x==ofString "(?!)")=true then [] else aJ8 sg (if (x==ofString ".")=true then ofString "" else Txt.item x (-1)) (x==ofString ".") zs
theorem bP4 {sg:Str} {zs:List Int} {k:Nat} (h:k=1∨k=2∨k=3∨k=4∨k=5∨k=8∨k=10∨k=11):bT2 sg (aC5 k) zs=aB3 sg zs (.txt (aC5 k)):=by
 unfold bT2 aB3;have key (x:Str) (h1:(x==ofString "(?!)")=false) (h2:¬ x=ofString "(?!)") (h3:(if (x==ofString ".")=true then ofString "" else Txt.item x (-1))=bO9 x) (h4:(x==ofString ".")=cX8 x) :
   (if (x==ofString "(?!)")=true then [] else aJ8 sg (if (x==ofString ".")=true then ofString "" else Txt.item x (-1)) (x==ofString ".") zs)=if x=ofString "(?!)" then [] else aJ8 sg (bO9 x) (cX8 x) zs:=by
  (refine rwg (h1 ..) ?_;refine rwg (if_neg Bool.false_ne_true ..) ?_;refine rwg (if_neg h2 ..) ?_;refine rwg (h3 ..) ?_;refine rwg (h4 ..) ?_;rfl)
 rcases h with rfl | rfl | rfl | rfl | rfl | rfl | rfl | rfl
 case inr.inr.inr.inr.inr.inr.inl =>
  dsimp only
  rw [if_pos (by decide +kernel),if_pos (by decide +kernel)]
 all_goals exact key _ (by decide +kernel) (by decide +kernel) (by decide +kernel) (by decide +kernel)
theorem aD0 {n0:Nat} {sel:List Nat} {ps:List Part} (h:Nat.blt 0 n0=true):bK6 n0 sel (.list (ps.map (aE9 (.obj 0))))=some (.list (ps.map (aE9 (.obj 0)))):=by
 refine (?_:Option.map _ (List.mapM _ _)=_);rw [aL9 (k:=aE9 (.obj 0)) fun p u_=>?_];rfl
 cases p with
 | star =>
  refine (?_:(ren n0 sel 0).map AV.obj=_);unfold ren;refine rwg (h ..) ?_;rfl
 | txt x=>rfl
theorem cE3:∀ k,k < 12→1≤k→¬ (k=1∨k=2∨k=3∨k=4∨k=5∨k=8∨k=10∨k=11)→k=6∨k=7∨k=9:=by decide
theorem aQ {sg:Str} {zs:List Int} (hpl:Pl sg zs) (h0:sg.length≤90):zs.length≤100:=by have:=hpl.len;lia
theorem bS4 {sg x:Str} {zs:List Int} (h:(x==ofString "(?!)")=true):bT2 sg x zs=[]:=if_pos h
theorem aR0 {sg x:Str} {zs:List Int} (h:(x==ofString "(?!)")=false):bT2 sg x zs=aJ8 sg (if (x==ofString ".")=true then ofString "" else Txt.item x (-1)) (x==ofString ".") zs:=if_neg (by refine rwg (h ..) ?_;exact Bool.false_ne_true)
theorem aS3 {sg x so:Str} {bd:Bool} {zs:List Int} (h2:¬ x=ofString "(?!)") (h3:bO9 x=so) (h4:cX8 x=bd):aB3 sg zs (.txt x)=aJ8 sg so bd zs:=by
 show (if _ then _ else _)=_
 (refine rwg (if_neg h2 ..) ?_;refine rwg (h3 ..) ?_;refine rwg (h4 ..) ?_;rfl)
theorem bW3 {P:Params} {n:Nat} {base:List AO} {sg:Str} {ks:List Nat} {σ:St} {K:AV→St→Prop} (h0:sg.length≤90) (hn:ks.length≤8) (hk:∀ k∈ks,k < 12)
  (hK:K (.bool ((bC6 sg ks).any fun x=>x==(sg.length:Int))) σ):aG6 (aF4 (aF8 P) (n + 3) base (.ref 192) [.str (aB1 (ks.map aA7)),.str sg] σ K):=by
 refine aN9 (in192 P) rfl rfl [] [(ofString "pattern",.str (aB1 (ks.map aA7))),(ofString "signs",.str sg)] [] rfl rfl rfl rfl ?_;refine (?_:∃ _,_);refine (aA0 (some [ofString "star",ofString "places"]) (?_) (?_))
 ·intro env h;have h:env.scope=sc192 P:=h;cases env
  dsimp only at h
  subst h
  kernel_rfl
 refine aC9 ?_;refine aA5 ?_;refine aA5 ?_;refine aC7 ?_;refine (?_:sel _ _ _);refine cX4 hn hk rfl ?_;have hok:=bQ8 ks [] hk (fun u_ h=>nomatch h);have hle:(ks.foldl aC8 []).length≤8:=le_trans (aN3 ks []) (by rw [length_nil,zero_add];exact hn);have hK:K (.bool (((ks.foldl aC8 []).foldl (aB3 sg) [0]).any fun x=>x==(sg.length:Int))) σ:=hK;refine (?_:_∧_);generalize ks.foldl aC8 []=ps at *;generalize aB1 (ks.map aA7)=pat;clear hk hn;refine ⟨by rw [length_map,sizeLine_eq];(clear h0;lia),fun i τ=>Pl sg ((ps.take i).foldl (aB3 sg) [0])∧((i=0∧τ=tkA pat sg ps [0] σ.wd)∨τ=tkB sg ps [0] ((ps.take i).foldl (aB3 sg) [0]) σ.wd),⟨.zero sg,.inl ⟨rfl,rfl⟩⟩,?_,?_,?_⟩
 ·rintro i σ2 ⟨_,⟨_,rfl⟩ | rfl⟩<;>rfl
 ·rintro i σ2 c ⟨hpl,hI⟩ hc;have hc:(ps.map (aE9 (.obj 0)))[i]?=some c:=hc;rw [getElem?_map] at hc;(refine aB9 hc ?_;intro p hp eo0;clear hc;subst eo0)
  (refine aH5 hp ?_;intro hin hpi)
  have hokp:=hok p (hpi▸getElem_mem hin);have hfold:(ps.take (i + 1)).foldl (aB3 sg) [0]=aB3 sg ((ps.take i).foldl (aB3 sg) [0]) p:=by rw [take_succ_eq_append_getElem hin,foldl_append,hpi];rfl
  have hpl2:Pl sg ((ps.take (i + 1)).foldl (aB3 sg) [0]):=bF (.zero sg);simp only [hfold] at hpl2 ⊢
  clear hfold hc hp hpi hok hin;rcases hI with ⟨hi0,rfl⟩ | rfl
  ·have e:(ps.take i).foldl (aB3 sg) [0]=[0]:=by rw [hi0];rfl
   rw [e] at hpl2 hpl ⊢;clear e hi0;rcases hokp with rfl | ⟨k,hk1,hk2,rfl⟩
   ·refine aY8 (aC2 _ _ _) ?_;intro X hX;refine aH ?_;refine aA5 ?_;refine aC9 ?_;refine And.intro (by decide +kernel) ?_;refine aA5 ?_;refine aM4 (by (clear hle;lia)) (by dsimp only;exact ⟨bB9 (by (clear h0 hle;lia)) (by (clear h0 hle;lia)) (by (clear h0 hle;lia)) (by (clear hle;lia)),by (clear hle;lia)⟩) ?_;conv=>whnf
    have hix:-(((List.map AV.int [0]).length:Nat):Int)≤0∧(0:Int) < ((List.map AV.int [0]).length:Nat)∧(List.map AV.int [0]).length≤16777216:=by decide
    apply hX;apply aB0 tkK [6];(case h=>rfl);(case hl=>rfl);(case hp=>rfl);(case ho=>repeat (first | exact .nil | (apply RenOs.cons;(case h=>first | exact aA2 (aB6 _) | exact aD0 rfl | exact aA2 rfl | rfl))))
    case hJ=>exact ⟨hpl2,.inr (aI9 rfl)⟩
   ·by_cases hb:k=1∨k=2∨k=3∨k=4∨k=5∨k=8∨k=10∨k=11
    ·have hx0:(Txt.item (aC5 k) 0==ofString "[")=false:=by clear hk1 hk2 hpl2;rcases hb with rfl | rfl | rfl | rfl | rfl | rfl | rfl | rfl<;>decide +kernel
     have hx1:-((aC5 k).length:Int)≤0∧(0:Int) < (aC5 k).length∧(aC5 k).length≤16777216:=by clear hx0;clear hk1 hk2 hpl2;rcases hb with rfl | rfl | rfl | rfl | rfl | rfl | rfl | rfl<;>decide +kernel
     have hx2:-((aC5 k).length:Int)≤-1∧(-1:Int) < (aC5 k).length∧(aC5 k).length≤16777216:=by clear hx1;rcases hb with rfl | rfl | rfl | rfl | rfl | rfl | rfl | rfl<;>decide +kernel
     rw [← bP4 hb] at hpl2 ⊢;generalize aC5 k=x at *;clear hb hk1 hk2;refine aY8 (aC2 _ _ _) ?_;intro X hX;refine And.intro (by with_reducible assumption) ?_;refine aC3 hx0 ?_;refine aA8 (fun hb600=>?_) (fun hb600=>?_)
     ·refine aH ?_;apply hX;apply aB0 tkK [4];(case h=>rfl);(case hl=>rfl);(case hp=>rfl);(case ho=>repeat (first | exact .nil | (apply RenOs.cons;(case h=>first | exact aA2 (aB6 _) | exact aD0 rfl | exact aA2 rfl | rfl))))
      case hJ=>exact ⟨hpl2,.inr (aI9 (zs:=[]) (bS4 hb600))⟩
     ·refine aH7 ?_;refine aA8 (fun hb601=>?_) (fun hb601=>?_)
      ·refine aE2 (ns:=[0]) (le_trans h0 (by decide)) (by decide) (fun y hy=>(hpl.mem y hy).1) rfl ?_;apply hX;apply aB0 tkK [4];(case h=>rfl);(case hl=>rfl);(case hp=>rfl);(case ho=>repeat (first | exact .nil | (apply RenOs.cons;(case h=>first | exact aA2 (aB6 _) | exact aD0 rfl | exact aA2 rfl | rfl))))
       case hJ=>exact ⟨hpl2,.inr (aI9 (by rw [aR0 hb600,hb601];rfl))⟩
      ·refine And.intro (by with_reducible assumption) ?_;refine aE2 (ns:=[0]) (le_trans h0 (by decide)) (by decide) (fun y hy=>(hpl.mem y hy).1) rfl ?_;apply hX;apply aB0 tkK [4];(case h=>rfl);(case hl=>rfl);(case hp=>rfl);(case ho=>repeat (first | exact .nil | (apply RenOs.cons;(case h=>first | exact aA2 (aB6 _) | exact aD0 rfl | exact aA2 rfl | rfl))))
       case hJ=>exact ⟨hpl2,.inr (aI9 (by rw [aR0 hb600,hb601];rfl))⟩
    ·have hk3:=cE3 k hk2 hk1 hb;rcases hk3 with rfl | rfl | rfl
     ·have e6:aC5 6=ofString "[st]":=rfl;have hrep:cM8 (ofString "[st]") (ofString "\\") (ofString "")=some (ofString "[st]"):=by decide +kernel
      rw [e6] at *;refine aY8 (aC2 _ _ _) ?_;intro X hX;refine aM4 (by decide +kernel) (by decide +kernel) ?_;refine (aA0 (_) (hrep) (?_));refine aM4 (by decide +kernel) (by decide +kernel) ?_;refine aH7 ?_;refine aE2 (ns:=[0]) (le_trans h0 (by decide)) (by decide) (fun y hy=>(hpl.mem y hy).1) rfl ?_;apply hX;apply aB0 tkK [4];(case h=>rfl);(case hl=>rfl);(case hp=>rfl);(case ho=>repeat (first | exact .nil | (apply RenOs.cons;(case h=>first | exact aA2 (aB6 _) | exact aD0 rfl | exact aA2 rfl | rfl))))
      case hJ=>exact ⟨hpl2,.inr (aI9 (aS3 (by decide +kernel) (by decide +kernel) (by decide +kernel)))⟩
     ·have e6:aC5 7=ofString "[^\\-]":=rfl;have hrep:cM8 (ofString "[^\\-]") (ofString "\\") (ofString "")=some (ofString "[^-]"):=by decide +kernel
      rw [e6] at *;refine aY8 (aC2 _ _ _) ?_;intro X hX;refine aM4 (by decide +kernel) (by decide +kernel) ?_;refine (aA0 (_) (hrep) (?_));refine aM4 (by decide +kernel) (by decide +kernel) ?_;refine aH7 ?_;refine aE2 (ns:=[0]) (le_trans h0 (by decide)) (by decide) (fun y hy=>(hpl.mem y hy).1) rfl ?_;apply hX;apply aB0 tkK [4];(case h=>rfl);(case hl=>rfl);(case hp=>rfl);(case ho=>repeat (first | exact .nil | (apply RenOs.cons;(case h=>first | exact aA2 (aB6 _) | exact aD0 rfl | exact aA2 rfl | rfl))))
      case hJ=>exact ⟨hpl2,.inr (aI9 (aS3 (by decide +kernel) (by decide +kernel) (by decide +kernel)))⟩
     ·have e6:aC5 9=ofString "[r-x]":=rfl;have hrep:cM8 (ofString "[r-x]") (ofString "\\") (ofString "")=some (ofString "[r-x]"):=by decide +kernel
      rw [e6] at *;refine aY8 (aC2 _ _ _) ?_;intro X hX;refine aM4 (by decide +kernel) (by decide +kernel) ?_;refine (aA0 (_) (hrep) (?_));refine aM4 (by decide +kernel) (by decide +kernel) ?_;refine aA5 ?_;refine aC9 ?_;refine aA5 ?_;refine aM4 (by decide +kernel) (by decide +kernel) ?_;refine aA5 ?_;refine cM0 (by decide +kernel) (by decide +kernel) (by decide +kernel) ?_;refine (?_:∃ _,_);refine bF0 (fun i=>(List.range i).map fun j=>.str ⟨#[114 + j]⟩) rfl ?_ ?_ ?_
      ·exact trivial
      ·rintro i c T hT ⟨hi,rfl⟩;have hi:i < 7:=lt_of_lt_of_le hi (by decide +kernel);have e0:((((Txt.item (Txt.slice (ofString "[r-x]") (some (if (Txt.item (ofString "[r-x]") 1==ofString "^")=true then 2 else 1)) (some (-1))) 0).cps.getD 0 0:Nat):Nat):Int)=114:=by decide +kernel
       refine aA5 ?_;refine And.intro (by dsimp only;rw [e0];(clear h0 hle hk1 hk2 hb e6 hrep e0;lia)) ?_;refine hT _ ?_;refine (?_:_++[_]=_);dsimp only
       rw [e0,range_succ,map_append,show ((114:Int) + i).toNat=114 + i by (clear h0 hle hk1 hk2 hb e6 hrep hi e0;lia)];rfl
      ·generalize hn7:Sq.len _=n7;obtain rfl:n7=7:=hn7.symm.trans (by decide +kernel);refine And.intro (by decide +kernel) ?_;refine aH7 ?_;refine aE2 (ns:=[0]) (le_trans h0 (by decide)) (by decide) (fun y hy=>(hpl.mem y hy).1) rfl ?_;apply hX;apply aB0 tkK [6];(case h=>rfl);(case hl=>rfl);(case hp=>rfl);(case ho=>repeat (first | exact .nil | (apply RenOs.cons;(case h=>first | exact aA2 (aB6 _) | exact aD0 rfl | exact aA2 rfl | rfl))))
       case hJ=>exact ⟨hpl2,.inr (aI9 (aS3 (by decide +kernel) (by decide +kernel) (by decide +kernel)))⟩
  ·generalize (ps.take i).foldl (aB3 sg) [0]=zs at *;generalize hws:[(0:Int)]=ws at *;clear hws;rcases hokp with rfl | ⟨k,hk1,hk2,rfl⟩
   ·refine aY8 (aC2 _ _ _) ?_;intro X hX;refine aH ?_;refine (?_:aB4 _ _);rcases zs with _ | ⟨z,r⟩
    ·refine aH ?_;apply hX;apply aB0 tkK [6];(case h=>rfl);(case hl=>rfl);(case hp=>rfl);(case ho=>repeat (first | exact .nil | (apply RenOs.cons;(case h=>first | exact aA2 (aB6 _) | exact aD0 rfl | exact aA2 rfl | rfl))))
     case hJ=>exact ⟨hpl2,.inr (aI9 (zs:=[]) rfl)⟩
    ·have hz:=hpl.mem z (.head _);have hix:-(((List.map AV.int (z::r)).length:Nat):Int)≤0∧(0:Int) < ((List.map AV.int (z::r)).length:Nat)∧(List.map AV.int (z::r)).length≤16777216:=by
      have:=hpl.len;rw [length_map];rw [length_cons] at this ⊢;(clear hle hz;lia)
     have hai:=aI0 (z::r);refine aC hai ?_;refine aA5 ?_;refine aC9 ?_;refine And.intro (by with_reducible assumption) ?_;refine aA5 ?_;refine aM4 (by (clear hle hz hix hai;lia)) (by dsimp only;exact ⟨bB9 (by (clear h0 hle hix hai;lia)) (by (clear hle hix hai;lia)) (by (clear h0 hle hz hix hai;lia)) (by (clear hle hz hix hai;lia)),by (clear hle hix hai;lia)⟩) ?_;apply hX;apply aB0 tkK [7];(case h=>rfl);(case hl=>rfl);(case hp=>rfl);(case ho=>repeat (first | exact .nil | (apply RenOs.cons;(case h=>first | exact aA2 (aB6 _) | exact aD0 rfl | exact aA2 rfl | rfl))))
     case hJ=>exact ⟨hpl2,.inr (aI9 rfl)⟩
   ·by_cases hb:k=1∨k=2∨k=3∨k=4∨k=5∨k=8∨k=10∨k=11
    ·have hx0:(Txt.item (aC5 k) 0==ofString "[")=false:=by clear hk1 hk2 hpl2;rcases hb with rfl | rfl | rfl | rfl | rfl | rfl | rfl | rfl<;>decide +kernel
     have hx1:-((aC5 k).length:Int)≤0∧(0:Int) < (aC5 k).length∧(aC5 k).length≤16777216:=by clear hk1 hk2 hpl2 hx0;rcases hb with rfl | rfl | rfl | rfl | rfl | rfl | rfl | rfl<;>decide +kernel
     have hx2:-((aC5 k).length:Int)≤-1∧(-1:Int) < (aC5 k).length∧(aC5 k).length≤16777216:=by clear hk1 hk2 hpl2 hx0 hx1;rcases hb with rfl | rfl | rfl | rfl | rfl | rfl | rfl | rfl<;>decide +kernel
     rw [← bP4 hb] at hpl2 ⊢;generalize aC5 k=x at *;clear hb hk1 hk2;refine aY8 (aC2 _ _ _) ?_;intro X hX;refine And.intro (by with_reducible assumption) ?_;refine aC3 hx0 ?_;refine aA8 (fun hb1600=>?_) (fun hb1600=>?_)
     ·refine aH ?_;apply hX;apply aB0 tkK [5];(case h=>rfl);(case hl=>rfl);(case hp=>rfl);(case ho=>repeat (first | exact .nil | (apply RenOs.cons;(case h=>first | exact aA2 (aB6 _) | exact aD0 rfl | exact aA2 rfl | rfl))))
      case hJ=>exact ⟨hpl2,.inr (aI9 (zs:=[]) (bS4 hb1600))⟩
     ·refine aH7 ?_;refine aA8 (fun hb1601=>?_) (fun hb1601=>?_)
      ·refine aE2 (ns:=zs) (le_trans h0 (by decide)) (aQ hpl h0) (fun y hy=>(hpl.mem y hy).1) rfl ?_;apply hX;apply aB0 tkK [5];(case h=>rfl);(case hl=>rfl);(case hp=>rfl);(case ho=>repeat (first | exact .nil | (apply RenOs.cons;(case h=>first | exact aA2 (aB6 _) | exact aD0 rfl | exact aA2 rfl | rfl))))
       case hJ=>exact ⟨hpl2,.inr (aI9 (by rw [aR0 hb1600,hb1601];rfl))⟩
      ·refine And.intro (by with_reducible assumption) ?_;refine aE2 (ns:=zs) (le_trans h0 (by decide)) (aQ hpl h0) (fun y hy=>(hpl.mem y hy).1) rfl ?_;apply hX;apply aB0 tkK [5];(case h=>rfl);(case hl=>rfl);(case hp=>rfl);(case ho=>repeat (first | exact .nil | (apply RenOs.cons;(case h=>first | exact aA2 (aB6 _) | exact aD0 rfl | exact aA2 rfl | rfl))))
       case hJ=>exact ⟨hpl2,.inr (aI9 (by rw [aR0 hb1600,hb1601];rfl))⟩
    ·have hk3:=cE3 k hk2 hk1 hb;clear hk1 hk2 hb;rcases hk3 with rfl | rfl | rfl
     ·have e6:aC5 6=ofString "[st]":=rfl;have hrep:cM8 (ofString "[st]") (ofString "\\") (ofString "")=some (ofString "[st]"):=by decide +kernel
      rw [e6] at *;refine aY8 (aC2 _ _ _) ?_;intro X hX;refine aM4 (by decide +kernel) (by decide +kernel) ?_;refine (aA0 (_) (hrep) (?_));refine aM4 (by decide +kernel) (by decide +kernel) ?_;refine aH7 ?_;refine aE2 (ns:=zs) (le_trans h0 (by decide)) (aQ hpl h0) (fun y hy=>(hpl.mem y hy).1) rfl ?_;apply hX;apply aB0 tkK [5];(case h=>rfl);(case hl=>rfl);(case hp=>rfl);(case ho=>repeat (first | exact .nil | (apply RenOs.cons;(case h=>first | exact aA2 (aB6 _) | exact aD0 rfl | exact aA2 rfl | rfl))))
      case hJ=>exact ⟨hpl2,.inr (aI9 (aS3 (by decide +kernel) (by decide +kernel) (by decide +kernel)))⟩
     ·have e6:aC5 7=ofString "[^\\-]":=rfl;have hrep:cM8 (ofString "[^\\-]") (ofString "\\") (ofString "")=some (ofString "[^-]"):=by decide +kernel
      rw [e6] at *;refine aY8 (aC2 _ _ _) ?_;intro X hX;refine aM4 (by decide +kernel) (by decide +kernel) ?_;refine (aA0 (_) (hrep) (?_));refine aM4 (by decide +kernel) (by decide +kernel) ?_;refine aH7 ?_;refine aE2 (ns:=zs) (le_trans h0 (by decide)) (aQ hpl h0) (fun y hy=>(hpl.mem y hy).1) rfl ?_;apply hX;apply aB0 tkK [5];(case h=>rfl);(case hl=>rfl);(case hp=>rfl);(case ho=>repeat (first | exact .nil | (apply RenOs.cons;(case h=>first | exact aA2 (aB6 _) | exact aD0 rfl | exact aA2 rfl | rfl))))
      case hJ=>exact ⟨hpl2,.inr (aI9 (aS3 (by decide +kernel) (by decide +kernel) (by decide +kernel)))⟩
     ·have e6:aC5 9=ofString "[r-x]":=rfl;have hrep:cM8 (ofString "[r-x]") (ofString "\\") (ofString "")=some (ofString "[r-x]"):=by decide +kernel
      rw [e6] at *;refine aY8 (aC2 _ _ _) ?_;intro X hX;refine aM4 (by decide +kernel) (by decide +kernel) ?_;refine (aA0 (_) (hrep) (?_));refine aM4 (by decide +kernel) (by decide +kernel) ?_;refine aA5 ?_;refine aC9 ?_;refine aA5 ?_;refine aM4 (by decide +kernel) (by decide +kernel) ?_;refine aA5 ?_;refine cM0 (by decide +kernel) (by decide +kernel) (by decide +kernel) ?_;refine (?_:∃ _,_);refine bF0 (fun i=>(List.range i).map fun j=>.str ⟨#[114 + j]⟩) rfl ?_ ?_ ?_
      ·exact trivial
      ·rintro i c T hT ⟨hi,rfl⟩;have hi:i < 7:=lt_of_lt_of_le hi (by decide +kernel);have e0:((((Txt.item (Txt.slice (ofString "[r-x]") (some (if (Txt.item (ofString "[r-x]") 1==ofString "^")=true then 2 else 1)) (some (-1))) 0).cps.getD 0 0:Nat):Nat):Int)=114:=by decide +kernel
       refine aA5 ?_;refine And.intro (by dsimp only;rw [e0];omega) ?_;refine hT _ ?_;refine (?_:_++[_]=_);dsimp only
       rw [e0,range_succ,map_append,show ((114:Int) + i).toNat=114 + i by omega];rfl
      ·generalize hn7:Sq.len _=n7;obtain rfl:n7=7:=hn7.symm.trans (by decide +kernel);refine And.intro (by decide +kernel) ?_;refine aH7 ?_;refine aE2 (ns:=zs) (le_trans h0 (by decide)) (aQ hpl h0) (fun y hy=>(hpl.mem y hy).1) rfl ?_;apply hX;apply aB0 tkK [7];(case h=>rfl);(case hl=>rfl);(case hp=>rfl);(case ho=>repeat (first | exact .nil | (apply RenOs.cons;(case h=>first | exact aA2 (aB6 _) | exact aD0 rfl | exact aA2 rfl | rfl))))
       case hJ=>exact ⟨hpl2,.inr (aI9 (aS3 (by decide +kernel) (by decide +kernel) (by decide +kernel)))⟩
 ·rintro σ2 ⟨hpl,hI⟩;have ht:ps.take (Sq.l (ps.map (aE9 (.obj 0)))).len=ps:=by
   refine (?_:ps.take (ps.map (aE9 (.obj 0))).length=_);(refine rwg (length_map ..) ?_;refine rwg (take_length ..) ?_;rfl)
  rw [ht] at hI hpl;rcases hI with ⟨h,rfl⟩ | rfl
  ·have:ps=[]:=by
    refine rwb (ht ..) ?_;refine rwg (h ..) ?_;rfl
   clear hok;subst this;refine aA5 ?_;refine And.intro (by (clear hle ht h;lia)) ?_;exact aG3 rfl (by refine rwg (bU ..) ?_;exact hK)
  ·generalize ps.foldl (aB3 sg) [0]=zs at *;have hai:=aI0 zs;refine aA5 ?_;refine And.intro (by (clear hle ht hai;omega)) ?_;refine aC hai ?_;exact aG3 rfl (by refine rwg (bU ..) ?_;exact hK)
noncomputable def constX:List Int:=[13858,2183,0,1,3593,6,258,2]
noncomputable def xsF (ns:List Int):List Int:=ns.take 4++constX
noncomputable def aC6 (ns:List Int):List Int:=[33188,36333,17407,(ns.take 4).sum.fmod 65536]
noncomputable def bL6 (k:Nat):Item:=itemsTable.getD k ⟨Str.empty,Str.empty,false⟩
noncomputable def aE1 (x:Int):List Item:=(aC1 (x.fdiv 5)).map bL6
noncomputable def wordsT:List Str:=[ofString "not",ofString "and",ofString "or",ofString "=",ofString "="]
noncomputable def aI5 (x:Int):Str:=wordsT.getD (x.fmod 5).toNat Str.empty
structure Wd1 where
 w:Str
 ks:List Nat
 x:Int
noncomputable def Wd1.text (d:Wd1):Str:=if (d.w==ofString "=")=true then d.w++aB1 (d.ks.map aA7) else d.w
noncomputable def aS9 (w:Str):Bool:=[ofString "and",ofString "or"].any (·==w)
noncomputable def aD3 (n:Nat) (x:Int):Str:=if ((aI5 x==ofString "not" && n==0) || (aS9 (aI5 x) && decide (n < 2)))=true then ofString "=" else aI5 x
noncomputable def aO6 (due:List (List Bool)) (w:Str) (found:List Bool):List (List Bool) :=
 if (w==ofString "not")=true then due.dropLast++[(due.getLastD []).map (!·)]
 else if aS9 w=true then due.take (due.length - 2)++[List.zipWith (if (w==ofString "and")=true then and else or) (due.getD (due.length - 2) []) (due.getLastD [])]
 else due++[found]
noncomputable def aI7 (sg:Str) (its:List Item):Bool:=(aN7 sg its).any fun x=>x==(sg.length:Int)
noncomputable def cG0 (sg:Str) (ks:List Nat):Bool:=(bC6 sg ks).any fun x=>x==(sg.length:Int)
noncomputable def wdF (n:Nat) (x:Int):Wd1:=⟨aD3 n x,aC1 (x.fdiv 5),x⟩
noncomputable def aH0 (rows:List Str) (st:List (List Bool) × List Wd1) (x:Int):List (List Bool) × List Wd1 :=
 (aO6 st.1 (aD3 st.1.length x) (rows.map fun sg=>aI7 sg (aE1 x)),st.2++[wdF st.1.length x])
noncomputable def aC0 (rows:List Str) (xs:List Int):List (List Bool) × List Wd1:=xs.foldl (aH0 rows) ([],[])
noncomputable def aB2 (ds:List Wd1):Str:=aB1 (ds.map fun d=>aD4 d.text d.x)
theorem FzAll.snoc {fz:Addr→Option AO} {bs:List Addr} {xss:List (List Bool)} {a:Addr} {x:List Bool} (h:FzAll fz bs xss) (ha:fz a=some (.list (x.map .bool))):FzAll fz (bs++[a]) (xss++[x]):=by
 refine ⟨by (refine rwg (List.length_append ..) ?_;refine rwg (List.length_append ..) ?_;refine rwg (h.1 ..) ?_);rfl,fun i b xs hb hx=>?_⟩;by_cases hi:i < bs.length
 ·replace hb:=(getElem?_append_left hi ..)▸hb;replace hx:=(getElem?_append_left (h.1▸hi) ..)▸hx;exact h.2 i b xs hb hx
 ·replace hb:=(getElem?_append_right (Nat.not_lt.mp hi) ..)▸hb;(replace hx:=(getElem?_append_right (h.1▸Nat.not_lt.mp hi) ..)▸hx;replace hx:=(Eq.symm (h.1 ..))▸hx)
  cases hj:i - bs.length with
  | zero =>
   rw [hj] at hb hx;cases hb
   cases hx
   exact ha
  | succ j=>replace hb:=(hj ..)▸hb;cases hb
theorem FzAll.mono {fz fz':Addr→Option AO} {bs:List Addr} {xss:List (List Bool)} (h:FzAll fz bs xss) (hm:∀ a ao,fz a=some ao→fz' a=some ao):FzAll fz' bs xss:=⟨h.1,fun i b xs hb hx=>hm _ _ (h.2 i b xs hb hx)⟩
theorem FzAll.last {fz:Addr→Option AO} {bs:List Addr} {xss:List (List Bool)} (h:FzAll fz bs xss) (hne:xss≠[]):∃ bs0 b xs0 x,bs=bs0++[b]∧xss=xs0++[x]∧fz b=some (.list (x.map .bool))∧FzAll fz bs0 xs0:=by
 obtain ⟨xs0,x,rfl⟩:∃ xs0 x,xss=xs0++[x]:=(aT2 (_) (_) ((List.dropLast_concat_getLast hne).symm));have hb:bs≠[]:=fun e=>by
  have:=h.1;rw [e,List.length_append] at this;simp at this
 obtain ⟨bs0,b,rfl⟩:∃ bs0 b,bs=bs0++[b]:=(aT2 (_) (_) ((List.dropLast_concat_getLast hb).symm));have hl:bs0.length=xs0.length:=by have:=h.1;rw [List.length_append,List.length_append] at this;simpa using this
 refine ⟨bs0,b,xs0,x,rfl,rfl,h.2 bs0.length b x (by simp) (by refine rwg (hl ..) ?_;simp),hl,fun i c xs hc hx=>h.2 i c xs ?_ ?_⟩
 ·refine rwg (getElem?_append_left (List.getElem?_eq_some_iff.mp hc).1 ..) ?_;exact hc
 ·refine rwg (getElem?_append_left (List.getElem?_eq_some_iff.mp hx).1 ..) ?_;exact hx
theorem Wd.add_old {w:Wd} {a b:Addr} {ao bo:AO} (ha:w.fz a=none) (hb:w.fz b=some bo):(w.add a ao).fz b=some bo:=by
 refine (?_:(if b=a then _ else _)=_);(refine rwg (if_neg (fun e=>by (replace hb:=(e ..)▸hb;replace hb:=(ha ..)▸hb);cases hb) ..) ?_);exact hb
theorem Wd.add_new {w:Wd} {a:Addr} {ao:AO}:(w.add a ao).fz a=some ao:=if_pos rfl
theorem aE4 {n0:Nat} {J:St→Prop} {σ:St} (keep:List Str) (k:Nat) (sel:List Nat) {xs:List AV} {loc:Addr→List (Str × AV)} {os obj:Addr→List AO} (h:(aM2 n0 σ.obj.length sel && aP sel)=true) (hs:(Nat.ble n0 k && !(sel.any fun j=>k==j))=true) (hk:σ.obj[k]?=some (.list xs)) (ha:xs.all aV2=true)
  (hl:∀ a,cV0 n0 sel ((σ.only keep).sub k a).loc=some (loc a)) (hp:∀ a,pick n0 sel ((σ.only keep).sub k a).obj=os a) (ho:∀ a,RenOs n0 sel (os a) (obj a)) (hJ:∀ a,σ.wd.fz a=none→again n0 J ⟨loc a,obj a,σ.wd.add a (.list xs)⟩):again n0 J σ :=
 .frz keep k (.list xs) sel (fun a=>⟨loc a,obj a,σ.wd⟩) h hs hk ha (fun a=>bD8 (hl a) (hp a) (ho a)) hJ
theorem cJ2 {xs0:List (List Bool)} {x f:List Bool}:aO6 (xs0++[x]) (ofString "not") f=xs0++[x.map (!·)]:=by
 unfold aO6;(refine rwg (if_pos (by decide +kernel) ..) ?_;refine rwg (List.dropLast_concat ..) ?_;refine rwg (List.getLastD_concat ..) ?_;rfl)
theorem bP3 {due:List (List Bool)} {f:List Bool}:aO6 due (ofString "=") f=due++[f]:=by
 unfold aO6;(refine rwg (if_neg (by decide +kernel) ..) ?_;refine rwg (if_neg (by decide +kernel) ..) ?_;rfl)
theorem bZ8 {xs0:List (List Bool)} {p q f:List Bool} {w:Str} {g:Bool→Bool→Bool} (hw:w=ofString "and"∧g=and∨w=ofString "or"∧g=or):aO6 (xs0++[p,q]) w f=xs0++[List.zipWith g p q]:=by
 have e1:(xs0++[p,q]).length - 2=xs0.length:=by refine rwg (List.length_append ..) ?_;rfl
 have e2:(xs0++[p,q]).take xs0.length=xs0:=List.take_left' rfl;have e3:(xs0++[p,q]).getD xs0.length []=p:=by (refine rwg (List.getD_eq_getElem?_getD ..) ?_;refine rwg (getElem?_append_right (le_refl _) ..) ?_;refine rwg (sub_self ..) ?_);rfl
 have e4:(xs0++[p,q]).getLastD []=q:=by (refine rwg (show xs0++[p,q]=(xs0++[p])++[q] by rw [append_assoc];rfl) ?_;refine rwg (List.getLastD_concat ..) ?_;rfl)
 unfold aO6;rcases hw with ⟨rfl,rfl⟩ | ⟨rfl,rfl⟩
 ·(refine rwg (if_neg (by decide +kernel) ..) ?_;refine rwg (if_pos (by decide +kernel) ..) ?_;refine rwg (if_pos (by decide +kernel) ..) ?_;refine rwg (e1 ..) ?_;refine rwg (e2 ..) ?_;refine rwg (e3 ..) ?_;refine rwg (e4 ..) ?_;rfl)
 ·(refine rwg (if_neg (by decide +kernel) ..) ?_;refine rwg (if_pos (by decide +kernel) ..) ?_;refine rwg (if_neg (by decide +kernel) ..) ?_;refine rwg (e1 ..) ?_;refine rwg (e2 ..) ?_;refine rwg (e3 ..) ?_;refine rwg (e4 ..) ?_;rfl)
theorem aG1 (a b c:Str):a++(b++c)=(a++b)++c:=by
 refine (?_:(⟨_⟩:Str)=⟨_⟩)
 congr 1
 exact (Array.append_assoc ..).symm
theorem bJ7 (a:Str):a++ofString ""=a:=by
 rw [show ofString ""=⟨#[]⟩ by decide +kernel];refine (?_:(⟨a.cps++#[]⟩:Str)=a);(refine rwg (Array.append_empty ..) ?_;rfl)
theorem bG (a:Str):∀ l:List Str,aB1 (l++[a])=aB1 l++a
 | []=>by
  refine (?_:a++ofString ""=ofString ""++a);(refine rwg (bJ7 ..) ?_;refine rwg (aQ0 ..) ?_;rfl)
 | b::r=>by
  refine (?_:b++aB1 (r++[a])=b++aB1 r++a);(refine rwg (bG a r ..) ?_;refine rwg (aG1 ..) ?_;rfl)
theorem aJ1 (x:Int):aI5 x∈wordsT:=by
 unfold aI5;have h1:=Int.fmod_nonneg_of_pos x (show (0:Int) < 5 by decide);have h2:=Int.fmod_lt_of_pos x (show (0:Int) < 5 by decide);generalize x.fmod 5=d at *;(refine aJ9 (Int.eq_ofNat_of_zero_le h1) ?_;intro k eo0;subst eo0)
 refine rwg (Int.toNat_natCast ..) ?_;rcases k with _ | _ | _ | _ | _ | k
 all_goals first | (exfalso;(clear h1;lia)) | decide +kernel
theorem bO4 (ns:List Int):aF (ns.map AV.int) none (some 4)=(ns.take 4).map AV.int:=by
 refine rwg (aO1 ..) ?_
 congr 1
 have h:=congrArg Array.toList (slicePick_upto' (toArray (ns.map fun n=>Value.int n 0)) 4);have h2:(aF (ns.map fun n=>Value.int n 0) none (some 4))=(ns.take 4).map fun n=>Value.int n 0:=by
  have h3:aF (ns.map fun n=>Value.int n 0) none (some 4)=(slicePick (toArray (ns.map fun n=>Value.int n 0)) none (some ((4:Nat):Int)) none).toList:=by
   unfold slicePick aF;simp
  (refine rwg (h3 ..) ?_;refine rwg (h ..) ?_)
  simp
 rw [aO1] at h2;exact List.map_inj_right (fun u_ u_ e=>(Value.int.inj e).1) |>.mp h2
theorem aW2 (w:Str) (x:Int):(aD4 w x).length≤2 * w.length + 3:=by
 have h:=aR7 w x w.length;have hj:(Txt.join (ofString "") (aH9 w x w.length)).length≤2 * w.length:=by
  (refine rwg (aL0 ..) ?_;refine rwg (aH4 ..) ?_);exact h
 unfold aD4;split
 ·(refine rwg (Str.length_append ..) ?_;refine rwg (Str.length_append ..) ?_;refine rwg (show (ofString "\"").length=1 by decide +kernel) ?_;refine rwg (show (ofString "\"\n").length=2 by decide +kernel) ?_);lia
 ·(refine rwg (Str.length_append ..) ?_;refine rwg (show (ofString "\n").length=1 by decide +kernel) ?_);lia
theorem cG1 (x:Int):(aI5 x).length≤3:=by
 have key:∀ w∈wordsT,w.length≤3:=by decide +kernel
 exact key _ (aJ1 x)
theorem cI9 (n:Nat) (x:Int):(aD3 n x).length≤3:=by
 unfold aD3;split
 ·decide +kernel
 ·exact cG1 x
theorem cN2 {w:Str} {x y:Int} (h:w.length≤3):(Wd1.text ⟨w,aC1 x,y⟩).length≤27:=by
 unfold Wd1.text;split
 ·refine rwg (Str.length_append ..) ?_;have h1:=bF4 (aI4 x);have h2:=aG7 x;refine (?_:w.length + (aB1 ((aC1 x).map aA7)).length≤27);lia
 ·refine (?_:w.length≤27);lia
theorem aO9 (rows:List Str):∀ xs:List Int,(aB2 (aC0 rows xs).2).length≤60 * xs.length:=by
 have key:∀ (xs:List Int) (st:List (List Bool) × List Wd1),(aB2 (xs.foldl (aH0 rows) st).2).length≤(aB2 st.2).length + 60 * xs.length:=by
  intro xs
  induction xs with
  | nil=>exact fun st=>le_refl _
  | cons x r ih =>
   intro st;refine le_trans (ih _) ?_;have h:(aB2 (aH0 rows st x).2).length≤(aB2 st.2).length + 60:=by
    refine (?_:(aB2 (st.2++[_])).length≤_);unfold aB2;refine rwg (map_append ..) ?_;refine (?_:(aB1 (_++[aD4 (Wd1.text _) _])).length≤_);(refine rwg (bG ..) ?_;refine rwg (Str.length_append ..) ?_)
    have h1:=aW2 (Wd1.text ⟨aD3 st.1.length x,aC1 (x.fdiv 5),x⟩) x;have h2:=cN2 (w:=aD3 st.1.length x) (x:=x.fdiv 5) (y:=x) (cI9 _ _);refine (?_:_ + (aD4 (Wd1.text ⟨aD3 st.1.length x,aC1 (x.fdiv 5),x⟩) x).length≤_);lia
   refine rwg (length_cons ..) ?_;lia
 intro xs;refine le_trans (key xs ([],[])) ?_;refine (?_:(ofString "").length + _≤_);refine rwg (show (ofString "").length=0 by decide +kernel) ?_;lia
theorem bQ6 {x:Int} (h:(aI5 x==ofString "not")=false) (h2:(([ofString "and",ofString "or"].any fun y=>y==aI5 x)==true)=false):aI5 x=ofString "=":=by
 have key:∀ w∈wordsT,(w==ofString "not")=false→(([ofString "and",ofString "or"].any fun y=>y==w)==true)=false→w=ofString "=":=by decide +kernel
 exact key _ (aJ1 x) h h2
theorem bA1 {x:Int}:aD3 0 x=ofString "=":=by
 have key:∀ w∈wordsT,(if ((w==ofString "not" && true) || (aS9 w && true))=true then ofString "=" else w)=ofString "=":=by decide +kernel
 exact key _ (aJ1 x)
theorem bK5 {α:Type} {l:List (List α)} (h:l≠[]):l.getLastD []∈l:=by
 obtain ⟨r,a,rfl⟩:∃ r a,l=r++[a]:=(aT2 (_) (_) ((List.dropLast_concat_getLast h).symm));refine rwg (List.getLastD_concat ..) ?_;simp
theorem cO5 {α:Type} {l:List (List α)} {k:Nat} (h:k < l.length):l.getD k []∈l:=by
 (refine rwg (List.getD_eq_getElem?_getD ..) ?_;refine rwg (getElem?_eq_getElem h ..) ?_);exact getElem_mem _
set_option tactic.hygienic true in
theorem cH8 {n:Nat} {due:List (List Bool)} {w:Str} {f:List Bool} (hd:∀ d∈due,d.length=n) (hf:f.length=n) (h1:(w==ofString "not")=true→due≠[]) (h2:aS9 w=true→2≤due.length) :
  (∀ d∈aO6 due w f,d.length=n)∧aO6 due w f≠[]∧(aO6 due w f).length≤due.length + 1:=by
 unfold aO6;split
 ·rename_i h;have hne:=h1 h;have hl:(due.getLastD []).length=n:=by
   exact hd _ (bK5 hne)
  refine ⟨fun d h=>?_,by simp,by rw [List.length_append,List.length_dropLast];simp only [length_cons,length_nil];(clear hf h1 h2 h hne hl;omega)⟩;rcases mem_append.mp h with h | h
  ·exact hd _ (List.dropLast_subset _ h)
  ·obtain rfl:=mem_singleton.mp h;rw [length_map];exact hl
 ·split
  ·rename_i h;have h3:=h2 h;refine ⟨fun d h=>?_,by simp,by rw [List.length_append,length_take];simp only [length_cons,length_nil];(clear hf h1 h2 h h3;omega)⟩;rcases mem_append.mp h with h | h
   ·exact hd _ (List.mem_of_mem_take h)
   ·obtain rfl:=mem_singleton.mp h;have hne:due≠[]:=fun e=>by rw [e] at h3;exact absurd h3 (by decide)
    (refine rwg (List.length_zipWith ..) ?_;refine rwg (hd _ (cO5 (by (clear hf h1 h2 hne;omega))) ..) ?_;refine rwg (hd _ (bK5 hne) ..) ?_;refine rwg (Nat.min_self ..) ?_;rfl)
  ·refine ⟨fun d h=>?_,by simp,by refine rwg (List.length_append ..) ?_;exact le_refl _⟩;rcases mem_append.mp h with h | h
   ·exact hd _ h
   ·obtain rfl:=mem_singleton.mp h;exact hf
theorem bY4 {rows:List Str} {st:List (List Bool) × List Wd1} {x:Int} (hd:∀ d∈st.1,d.length=rows.length):(∀ d∈(aH0 rows st x).1,d.length=rows.length)∧(aH0 rows st x).1≠[]∧(aH0 rows st x).1.length≤st.1.length + 1:=by
 refine cH8 hd (length_map ..) (fun h e=>?_) (fun h=>?_)
 ·replace h:=(e ..)▸h;have h:(aD3 0 x==ofString "not")=true:=h;replace h:=(bA1 ..)▸h
  revert h;decide +kernel
 ·rcases Nat.lt_or_ge st.1.length 2 with h2 | h2
  ·exfalso
   have key:∀ w∈wordsT,∀ b:Bool,aS9 (if ((w==ofString "not" && b) || (aS9 w && true))=true then ofString "=" else w)=false:=by decide +kernel
   have:=key _ (aJ1 x) (st.1.length==0);unfold aD3 at h;(replace h:=(show decide (st.1.length < 2)=true from decide_eq_true h2)▸h;replace h:=(this ..)▸h)
   cases h
  ·exact h2
theorem aV8 (rows:List Str):∀ xs:List Int,(∀ d∈(aC0 rows xs).1,d.length=rows.length)∧(xs≠[]→(aC0 rows xs).1≠[])∧(aC0 rows xs).1.length≤xs.length:=by
 have key:∀ (xs:List Int) (st:List (List Bool) × List Wd1),(∀ d∈st.1,d.length=rows.length)→(∀ d∈(xs.foldl (aH0 rows) st).1,d.length=rows.length)∧(xs≠[]∨st.1≠[]→(xs.foldl (aH0 rows) st).1≠[])∧(xs.foldl (aH0 rows) st).1.length≤st.1.length + xs.length:=by
  intro xs
  induction xs with
  | nil=>exact fun st h=>⟨h,fun h=>h.elim (absurd rfl) id,le_refl _⟩
  | cons x r ih =>
   intro st h;refine hide fun G_ k_=>?_;(refine aH8 (bY4 (x:=x) h) ?_;intro h1 h2 h3)
   (refine aH8 (ih _ h1) ?_;intro h4 h5 h6)
   refine k_ ?_;refine ⟨h4,fun u_=>h5 (.inr h2),le_trans h6 ?_⟩;refine rwg (length_cons ..) ?_;(clear k_ h2 h5 h6;lia)
 intro xs;refine hide fun G_ k_=>?_;(refine aH8 (key xs ([],[]) (fun d h=>by cases h)) ?_;intro h1 h2 h3)
 refine k_ ?_;refine ⟨h1,fun h=>h2 (.inl h),le_trans h3 ?_⟩;refine (?_:0 + _≤_);(clear k_ h2 h3;lia)
theorem aV6 {n:Nat} {x:Int}:(aD3 n x=ofString "not"∧n≠0)∨(∃ g:Bool→Bool→Bool,(aD3 n x=ofString "and"∧g=and∨aD3 n x=ofString "or"∧g=or)∧2≤n)∨aD3 n x=ofString "=":=by
 have key:∀ w∈wordsT,w=ofString "not"∨w=ofString "and"∨w=ofString "or"∨w=ofString "=":=by decide +kernel
 unfold aD3;rcases key _ (aJ1 x) with h | h | h | h<;>refine rwg (h ..) ?_
 ·(refine rwg (show (ofString "not"==ofString "not")=true from beq_self_eq_true _) ?_;refine rwg (show aS9 (ofString "not")=false by decide +kernel) ?_;refine rwg (Bool.false_and ..) ?_;refine rwg (Bool.or_false ..) ?_;refine rwg (Bool.true_and ..) ?_)
  by_cases hn:n=0
  ·subst hn;exact .inr (.inr rfl)
  ·(refine rwg (if_neg (by rw [beq_eq_false_iff_ne.mpr hn];exact Bool.false_ne_true) ..) ?_);exact .inl ⟨rfl,hn⟩
 ·(refine rwg (show (ofString "and"==ofString "not")=false by decide +kernel) ?_;refine rwg (show aS9 (ofString "and")=true by decide +kernel) ?_;refine rwg (Bool.false_and ..) ?_;refine rwg (Bool.false_or ..) ?_;refine rwg (Bool.true_and ..) ?_)
  by_cases hn:n < 2
  ·refine rwg (if_pos (decide_eq_true hn) ..) ?_;exact .inr (.inr rfl)
  ·(refine rwg (if_neg (by rw [decide_eq_false hn];exact Bool.false_ne_true) ..) ?_);exact .inr (.inl (aA0 (and) (.inl ⟨rfl,rfl⟩) (by omega)))
 ·(refine rwg (show (ofString "or"==ofString "not")=false by decide +kernel) ?_;refine rwg (show aS9 (ofString "or")=true by decide +kernel) ?_;refine rwg (Bool.false_and ..) ?_;refine rwg (Bool.false_or ..) ?_;refine rwg (Bool.true_and ..) ?_)
  by_cases hn:n < 2
  ·refine rwg (if_pos (decide_eq_true hn) ..) ?_;exact .inr (.inr rfl)
  ·(refine rwg (if_neg (by rw [decide_eq_false hn];exact Bool.false_ne_true) ..) ?_);exact .inr (.inl (aA0 (or) (.inr ⟨rfl,rfl⟩) (by omega)))
 ·rw [show (ofString "="==ofString "not")=false by decide +kernel,show aS9 (ofString "=")=false by decide +kernel,Bool.false_and,Bool.false_and,Bool.or_false,if_neg Bool.false_ne_true];exact .inr (.inr rfl)
theorem aV9 (b:Str):(ofString "="++b).cps.toList=61::b.cps.toList:=by
 rw [show ofString "="=⟨#[61]⟩ by decide +kernel];show ((⟨#[61]⟩:Str).cps++b.cps).toList=_
 rw [Array.toList_append];rfl
theorem bD {a b:Str} (h:a.cps.toList=b.cps.toList):a=b:=by
 cases a;cases b
 simp only at h
 exact congrArg Str.mk (Array.toList_inj.mp h)
theorem cE7 (b:Str):Txt.slice (ofString "="++b) none (some 1)=ofString "=":=by
 (refine rwg (eq_of_beq (slice_closes_to (x:=ofString "="++b) (j:=1) ⟨by decide,by rw [aV9,length_cons];lia⟩) ..) ?_)
 refine bD ?_;(refine rwg (aV9 ..) ?_;refine rwg (show ofString "="=⟨#[61]⟩ by decide +kernel) ?_);rfl
theorem cG (b:Str):Txt.slice (ofString "="++b) (some 1) none=b:=by
 (refine rwg (eq_of_beq (slice_closes_from (x:=ofString "="++b) (i:=1) ⟨by decide,by rw [aV9,length_cons];omega⟩) ..) ?_)
 refine bD ?_;refine rwg (aV9 ..) ?_;simp
 exact List.take_of_length_le (by simp)
theorem eq_not (b:Str):(ofString "="++b==ofString "not")=false∧([ofString "and",ofString "or"].any fun y=>y==ofString "="++b)=false:=by
 have key:∀ w:Str,w.cps.toList.head?≠some 61→(ofString "="++b==w)=false∧(w==ofString "="++b)=false:=fun w h=>by
  constructor
  ·refine beq_eq_false_iff_ne.mpr fun e=>h ?_;rw [← e,aV9];rfl
  ·refine beq_eq_false_iff_ne.mpr fun e=>h ?_;rw [e,aV9];rfl
 refine ⟨(key _ (by decide +kernel)).1,?_⟩;rw [any_cons,any_cons,any_nil,(key (ofString "and") (by decide +kernel)).2,(key (ofString "or") (by decide +kernel)).2];rfl
theorem cV6 (b:Int):(Txt.join (ofString "") (fmL b)).length≤90:=by
 (refine rwg (aL0 ..) ?_;refine rwg (aH4 ..) ?_)
 have key:∀ (i:Nat) (l:List (List (Int × Str))),(l.all fun t=>t.all fun p=>p.2.length==1)=true→((fmS b i l).map fun x=>x.length).sum≤l.length:=by
  intro i l
  induction l generalizing i with
  | nil=>intro _;exact le_refl _
  | cons t r ih =>
   intro h;(replace h:=(all_cons ..)▸h;replace h:=(Bool.and_eq_true ..)▸h)
   have h1:=aW3 b i t h.1;have h2:=ih (i + 1) h.2;refine (?_:((aK b i t).length + ((fmS b (i + 1) r).map fun x=>x.length).sum)≤_);refine rwg (length_cons ..) ?_;(clear h;lia)
 exact le_trans (key 0 fmT (by decide +kernel)) (by decide)
theorem bZ1 (rows:List Str) (xs:List Int) (x:Int):aC0 rows (xs++[x])=aH0 rows (aC0 rows xs) x:=by
 unfold aC0;refine rwg (foldl_append ..) ?_;rfl
theorem bM0 (rows:List Str) (xs:List Int):(aC0 rows xs).2.length=xs.length:=by
 have key:∀ (xs:List Int) (st:List (List Bool) × List Wd1),(xs.foldl (aH0 rows) st).2.length=st.2.length + xs.length:=by
  intro xs
  induction xs with
  | nil=>exact fun st=>rfl
  | cons x r ih =>
   intro st;rw [List.foldl_cons,ih];refine (?_:(st.2++[_]).length + _=_);simp only [List.length_append,length_cons,length_nil];lia
 rw [aC0,key];exact zero_add _
theorem cQ6 (rows:List Str) (xs:List Int) (j:Nat) (x:Int) (h:xs[j]?=some x):(aC0 rows xs).2[j]?=some ⟨aD3 (aC0 rows (xs.take j)).1.length x,aC1 (x.fdiv 5),x⟩:=by
 have keep:∀ (ys:List Int) (st:List (List Bool) × List Wd1) (d:Wd1) (j:Nat),st.2[j]?=some d→(ys.foldl (aH0 rows) st).2[j]?=some d:=by
  intro ys
  induction ys with
  | nil=>exact fun st d j h=>h
  | cons y r ih =>
   intro st d j h;refine ih _ d j ?_;refine (?_:(st.2++[_])[j]?=_);rw [getElem?_append_left (List.getElem?_eq_some_iff.mp h).1];exact h
 (refine aH5 h ?_;intro h1 h2)
 have e:xs=(xs.take j++[x])++xs.drop (j + 1):=by
  rw [← h2,← take_succ_eq_append_getElem h1,List.take_append_drop]
 have e2:aC0 rows xs=(xs.drop (j + 1)).foldl (aH0 rows) (aH0 rows (aC0 rows (xs.take j)) x):=by
  rw [← bZ1];conv=>lhs;rw [e]
  unfold aC0;rw [foldl_append]
 rw [e2];refine keep _ _ _ j ?_;refine (?_:((aC0 rows (xs.take j)).2++[wdF _ x])[j]?=_);have hl:(aC0 rows (xs.take j)).2.length=j:=by (refine rwg (bM0 ..) ?_;refine rwg (length_take ..) ?_);(clear h h2 e e2;lia)
 (refine rwg (getElem?_append_right (by (clear h h1 h2 e e2;lia)) ..) ?_;refine rwg (hl ..) ?_;refine rwg (sub_self ..) ?_);rfl
theorem aH3 (a b:Str):signs (a++b)=signs a++signs b:=by
 refine (?_:List.map _ (a.cps++b.cps).toList=_);(refine rwg (Array.toList_append ..) ?_;refine rwg (map_append ..) ?_;rfl)
noncomputable def aY7:List Nat:=(ofString "notadr=*?wx-[]!s").cps.toList
theorem cR8:∀ c∈aY7,Txt.contains wsS ⟨#[c]⟩=false∧((⟨#[c]⟩:Str)==dqS)=false∧((⟨#[c]⟩:Str)==bsS)=false:=by decide +kernel
theorem bQ5 {wd:Str} {k c:Nat} (hc:wd.cps.toList[k]?=some c):Txt.item wd (k:Int)=⟨#[c]⟩ :=
 (At.whole wd).item (j:=k) (by (clear hc;lia)) (by refine rwb (Array.getElem?_toList ..) ?_;exact hc)
theorem bU4 {wd:Str} {x:Int} {k c:Nat} (hc:wd.cps.toList[k]?=some c) (h:c∈aY7) (r:List Str) (acc:Str) :
  aI3 (signs (aD7 wd x k)++r) acc=aI3 r (acc++⟨#[c]⟩)∧aG (signs (aD7 wd x k)++r) acc=aG r (acc++⟨#[c]⟩):=by
 refine hide fun G_ k_=>?_;(refine aH8 (cR8 c h) ?_;intro h1 h2 h3)
 refine k_ ?_;have b1:(bsS==dqS)=false:=by decide +kernel
 have b2:Txt.contains wsS bsS=false:=by decide +kernel
 unfold aD7;refine rwg (bQ5 hc ..) ?_;split
 ·have e:signs (ofString "\\"++⟨#[c]⟩)++r=bsS::(⟨#[c]⟩:Str)::r:=by
   (refine rwg (aH3 ..) ?_;refine rwg (show signs (ofString "\\")=[bsS] by decide +kernel) ?_);rfl
  refine rwg (e ..) ?_;exact ⟨(bK1 b1 (beq_self_eq_true _)).trans rfl,(bJ0 b2 (beq_self_eq_true _)).trans rfl⟩
 ·have e:signs (⟨#[c]⟩:Str)++r=(⟨#[c]⟩:Str)::r:=rfl;refine rwg (e ..) ?_;exact ⟨aU0 h2 h3,aU1 h1 h3⟩
theorem bA8 {wd:Str} {x:Int} (hw:∀ c∈wd.cps.toList,c∈aY7) (r:List Str) (acc:Str):∀ (n k:Nat),k + n=wd.cps.toList.length →
  aI3 (signs (aB1 ((List.range' k n).map (aD7 wd x)))++r) acc=aI3 r (acc++⟨(wd.cps.toList.drop k).toArray⟩)∧aG (signs (aB1 ((List.range' k n).map (aD7 wd x)))++r) acc=aG r (acc++⟨(wd.cps.toList.drop k).toArray⟩):=by
 intro n
 induction n generalizing acc with
 | zero =>
  intro k hk;have e:acc++(⟨(wd.cps.toList.drop k).toArray⟩:Str)=acc:=by
   rw [List.drop_of_length_le (by lia)];exact (show (⟨acc.cps++#[]⟩:Str)=acc by rw [Array.append_empty])
  rw [e];have e2:signs (aB1 ((List.range' k 0).map (aD7 wd x)))=[]:=by
   refine (?_:signs (ofString "")=[]);decide +kernel
  rw [e2];exact ⟨rfl,rfl⟩
 | succ n ih =>
  intro k hk;have hkl:k < wd.cps.toList.length:=by lia
  refine hide fun G_ k_=>?_;obtain ⟨c,hc⟩:∃ c,wd.cps.toList[k]?=some c:=⟨_,getElem?_eq_getElem hkl⟩;have hcm:=hw c (mem_of_getElem? hc);have e:signs (aB1 ((List.range' k (n + 1)).map (aD7 wd x)))++r=signs (aD7 wd x k)++(signs (aB1 ((List.range' (k + 1) n).map (aD7 wd x)))++r):=by
   rw [List.range'_succ,map_cons];refine (?_:signs (aD7 wd x k++aB1 _)++r=_);(refine rwg (aH3 ..) ?_;refine rwg (append_assoc ..) ?_;rfl)
  have e3:(acc++(⟨#[c]⟩:Str))++(⟨(wd.cps.toList.drop (k + 1)).toArray⟩:Str)=acc++⟨(wd.cps.toList.drop k).toArray⟩:=by
   refine rwb (aG1 ..) ?_
   congr 1
   (refine aH5 hc ?_;intro h1 h2)
   (refine rwg (List.drop_eq_getElem_cons h1 ..) ?_;refine rwg (h2 ..) ?_)
   refine bD ?_;refine (?_:(#[c]++_).toList=_);simp
  (refine aE8 (ih (acc++⟨#[c]⟩) (k + 1) (by (clear hkl k_ hc e e3;lia))) ?_;intro i1 i2)
  (refine aE8 (bU4 (x:=x) hc hcm (signs (aB1 ((List.range' (k + 1) n).map (aD7 wd x)))++r) acc) ?_;intro s1 s2)
  refine k_ ?_;(refine rwg (e ..) ?_;refine rwg (s1 ..) ?_;refine rwg (s2 ..) ?_;refine rwg (i1 ..) ?_;refine rwg (i2 ..) ?_;refine rwg (e3 ..) ?_)
  exact ⟨rfl,rfl⟩
noncomputable abbrev nlS:Str:=⟨#[10]⟩
theorem bH7 (wd:Str) (x:Int):Txt.join (ofString "") (aH9 wd x wd.length)=aB1 ((List.range' 0 wd.length).map (aD7 wd x)):=by
 rw [aL0,aH9,List.range_eq_range']
theorem cI (w:Str):(⟨w.cps.toList.toArray⟩:Str)=w:=by cases w;simp
theorem bK7 (w:Str):ofString ""++w=w:=aQ0 w
theorem cD5 {w:Str} {x:Int} (hw:∀ c∈w.cps.toList,c∈aY7) (hne:w.cps.toList≠[]) (r:List Str):∃ r',aA9 (signs (aD4 w x)++r)=(w,r')∧(r'=r∨r'=nlS::r):=by
 have hlen:0 + w.length=w.cps.toList.length:=by simp [PySem.Str.length]
 unfold aD4;rw [bH7];split
 ·refine (aA0 (nlS::r) (?_) (.inr rfl));have e:signs (ofString "\""++aB1 ((List.range' 0 w.length).map (aD7 w x))++ofString "\"\n")++r=dqS::(signs (aB1 ((List.range' 0 w.length).map (aD7 w x)))++(dqS::nlS::r)):=by
   rw [aH3,aH3,show signs (ofString "\"")=[dqS] by decide +kernel,show signs (ofString "\"\n")=[dqS,nlS] by decide +kernel];simp
  rw [e];unfold aA9;(refine rwg (if_neg (by decide +kernel) ..) ?_;refine rwg (if_pos (beq_self_eq_true _) ..) ?_;refine rwg ((bA8 hw _ _ w.length 0 hlen).1) ?_;refine rwg (bK0 (beq_self_eq_true _) ..) ?_;refine rwg (List.drop_zero ..) ?_;refine rwg (cI ..) ?_;refine rwg (bK7 ..) ?_;rfl)
 ·refine (aA0 (r) (?_) (.inl rfl));refine hide fun G_ k_=>?_;obtain ⟨n,hn⟩:∃ n,w.length=n + 1:=⟨w.length - 1,by have:=List.length_pos_iff.mpr hne;(clear hne k_;lia)⟩;obtain ⟨c,hc⟩:∃ c,w.cps.toList[0]?=some c:=⟨_,getElem?_eq_getElem (List.length_pos_iff.mpr hne)⟩;have hcm:=hw c (mem_of_getElem? hc);(refine aH8 (cR8 c hcm) ?_;intro h1 h2 h3)
  refine k_ ?_;have hrest:=(bA8 (x:=x) hw (nlS::r) (ofString ""++⟨#[c]⟩) n 1 (by (clear hne k_ hc h1 h2 h3;lia))).2;have hfin:aG (signs (aB1 ((List.range' 1 n).map (aD7 w x)))++(nlS::r)) (ofString ""++⟨#[c]⟩)=(w,r):=by
   (refine rwg (hrest ..) ?_;refine rwg (bI3 (by decide +kernel) ..) ?_;refine rwg (bK7 ..) ?_)
   congr 1
   refine hide fun G_ k_=>?_;(refine aH5 hc ?_;intro k1 k2)
   refine k_ ?_;refine bD ?_;refine (?_:(#[c]++((w.cps.toList.drop 1).toArray)).toList=_);refine rwg (Array.toList_append ..) ?_;refine (?_:c::w.cps.toList.drop 1=_);(refine rwb (k2 ..) ?_;refine rwg (List.getElem_cons_drop ..) ?_);rfl
  have e:signs (aB1 ((List.range' 0 w.length).map (aD7 w x))++ofString "\n")++r=signs (aD7 w x 0)++(signs (aB1 ((List.range' 1 n).map (aD7 w x)))++(nlS::r)):=by
   (refine rwg (hn ..) ?_;refine rwg (List.range'_succ ..) ?_;refine rwg (map_cons ..) ?_)
   refine (?_:signs ((aD7 w x 0++aB1 _)++_)++r=_);(refine rwg (aH3 ..) ?_;refine rwg (aH3 ..) ?_;refine rwg (show signs (ofString "\n")=[nlS] by decide +kernel) ?_)
   simp
  refine rwg (e ..) ?_;unfold aD7;refine rwg (bQ5 hc ..) ?_;split
  ·(refine rwg (aH3 ..) ?_;refine rwg (show signs (ofString "\\")=[bsS] by decide +kernel) ?_)
   refine (?_:aA9 (bsS::(⟨#[c]⟩:Str)::_)=_);unfold aA9;(refine rwg (if_neg (by decide +kernel) ..) ?_;refine rwg (if_neg (by decide +kernel) ..) ?_;refine rwg (if_pos (beq_self_eq_true _) ..) ?_)
   exact hfin
  ·refine (?_:aA9 ((⟨#[c]⟩:Str)::_)=_);unfold aA9;(refine rwg (if_neg (by rw [h1];exact Bool.false_ne_true) ..) ?_;refine rwg (if_neg (by rw [h2];exact Bool.false_ne_true) ..) ?_;refine rwg (if_neg (by rw [h3];exact Bool.false_ne_true) ..) ?_)
   exact hfin
theorem cI0 (r:List Str):aA9 (nlS::r)=aA9 r:=by
 conv=>lhs;unfold aA9
 (refine rwg (if_pos (by decide +kernel) ..) ?_;rfl)
noncomputable def aG0 (W:List Wd1):List Str:=W.map Wd1.text++[ofString ""]
noncomputable def bH3 (W:List Wd1):Nat→List Str
 | 0=>signs (aB2 W)
 | j + 1=>(aA9 (bH3 W j)).2
noncomputable def okW (d:Wd1):Prop:=(∀ c∈d.text.cps.toList,c∈aY7)∧d.text.cps.toList≠[]
theorem aU2 (d:Wd1) (W:List Wd1):aB2 (d::W)=aD4 d.text d.x++aB2 W:=rfl
theorem cE5 {W:List Wd1} (hW:∀ d∈W,okW d):∀ j,j≤W.length→bH3 W j=signs (aB2 (W.drop j))∨bH3 W j=nlS::signs (aB2 (W.drop j))
 | 0,_=>.inl rfl
 | j + 1,hj=>by
  refine hide fun G_ k_=>?_;obtain ⟨d,hd⟩:∃ d,W[j]?=some d:=⟨_,getElem?_eq_getElem (by (clear k_;lia))⟩;(refine aH5 hd ?_;intro h1 h2)
  (refine aE8 (hW d (h2▸getElem_mem h1)) ?_;intro hc hne)
  have e:signs (aB2 (W.drop j))=signs (aD4 d.text d.x)++signs (aB2 (W.drop (j + 1))):=by
   (refine rwg (List.drop_eq_getElem_cons h1 ..) ?_;refine rwg (h2 ..) ?_;refine rwg (aU2 ..) ?_;refine rwg (aH3 ..) ?_;rfl)
  (refine aA3 (cD5 (x:=d.x) hc hne (signs (aB2 (W.drop (j + 1))))) ?_;intro r' ht hr)
  refine k_ ?_;have hg:aA9 (bH3 W j)=(d.text,r'):=by
   rcases cE5 hW j (by (clear k_ hd h1 h2 hne e ht hr;lia)) with h | h
   ·(refine rwg (h ..) ?_;refine rwg (e ..) ?_;refine rwg (ht ..) ?_;rfl)
   ·(refine rwg (h ..) ?_;refine rwg (cI0 ..) ?_;refine rwg (e ..) ?_;refine rwg (ht ..) ?_;rfl)
  refine (?_:(aA9 (bH3 W j)).2=_∨(aA9 (bH3 W j)).2=_);refine rwg (hg ..) ?_;exact hr
theorem cY3 {W:List Wd1} (hW:∀ d∈W,okW d) (j:Nat) (t:Str) (h:(aG0 W)[j]?=some t):aA9 (bH3 W j)=(t,bH3 W (j + 1)):=by
 have hlen:(aG0 W).length=W.length + 1:=by unfold aG0;rw [List.length_append,length_map];rfl
 have hj:=(List.getElem?_eq_some_iff.mp h).1;have key:(aA9 (bH3 W j)).1=t:=by
  by_cases hjl:j=W.length
  ·clear hj;subst hjl;rw [aG0,getElem?_append_right (by rw [length_map];exact le_refl _),length_map,sub_self] at h;obtain rfl:=Option.some.inj h;rcases cE5 hW _ (le_refl _) with h | h
   ·rw [h,List.drop_length];decide +kernel
   ·rw [h,cI0,List.drop_length];decide +kernel
  ·have hj2:j < W.length:=by (clear h;lia)
   obtain ⟨d,hd⟩:∃ d,W[j]?=some d:=⟨_,getElem?_eq_getElem hj2⟩;(refine aH5 hd ?_;intro h1 h2)
   (refine aE8 (hW d (h2▸getElem_mem h1)) ?_;intro hc hne)
   rw [aG0,getElem?_append_left (by rw [length_map];exact hj2),getElem?_map,hd] at h;obtain rfl:=Option.some.inj h;have e:signs (aB2 (W.drop j))=signs (aD4 d.text d.x)++signs (aB2 (W.drop (j + 1))):=by
    (refine rwg (List.drop_eq_getElem_cons h1 ..) ?_;refine rwg (h2 ..) ?_;refine rwg (aU2 ..) ?_;refine rwg (aH3 ..) ?_;rfl)
   (refine aA3 (cD5 (x:=d.x) hc hne (signs (aB2 (W.drop (j + 1))))) ?_;intro r' ht hr)
   rcases cE5 hW j (by (clear hjl hj2 hd h1 h2 hne h e ht hr;lia)) with h | h
   ·(refine rwg (h ..) ?_;refine rwg (e ..) ?_;refine rwg (ht ..) ?_;rfl)
   ·(refine rwg (h ..) ?_;refine rwg (cI0 ..) ?_;refine rwg (e ..) ?_;refine rwg (ht ..) ?_;rfl)
 exact Prod.ext key rfl
theorem cJ3:∀ k,k < 12→∀ c∈(aA7 k).cps.toList,c∈aY7:=by
 have:∀ k∈List.range 12,∀ c∈(aA7 k).cps.toList,c∈aY7:=by decide +kernel
 exact fun k hk=>this k (List.mem_range.mpr hk)
theorem cS0:∀ {ks:List Nat},(∀ k∈ks,k < 12)→∀ c∈(aB1 (ks.map aA7)).cps.toList,c∈aY7
 | [],_=>by
  refine (?_:∀ c∈(ofString "").cps.toList,c∈aY7);decide +kernel
 | k::r,h=>by
  intro c hc;have hc:c∈((aA7 k).cps++(aB1 (r.map aA7)).cps).toList:=hc;rw [Array.toList_append] at hc;rcases mem_append.mp hc with hc | hc
  ·exact cJ3 k (h k (.head _)) c hc
  ·exact cS0 (fun j hj=>h j (.tail _ hj)) c hc
set_option tactic.hygienic true in
theorem dA2 {n:Nat} {x y z:Int}:okW ⟨aD3 n x,aC1 y,z⟩:=by
 have hw:∀ w∈wordsT,(∀ c∈w.cps.toList,c∈aY7)∧w.cps.toList≠[]:=by decide +kernel
 have hm:aD3 n x∈wordsT:=by
  unfold aD3;split
  ·decide +kernel
  ·exact aJ1 x
 (refine aE8 (hw _ hm) ?_;intro h1 h2)
 unfold okW Wd1.text;split
 ·rename_i h;have h:aD3 n x=ofString "=":=eq_of_beq h;have e:(aD3 n x++aB1 ((aC1 y).map aA7)).cps.toList=61::(aB1 ((aC1 y).map aA7)).cps.toList:=by refine rwg (h ..) ?_;exact aV9 _
  constructor
  ·intro c hc;have hc:c∈(aD3 n x++aB1 ((aC1 y).map aA7)).cps.toList:=hc;replace hc:=(e ..)▸hc;rcases mem_cons.mp hc with rfl | hc
   ·decide +kernel
   ·exact cS0 (aI4 y) c hc
  ·intro h9;have h9:(aD3 n x++aB1 ((aC1 y).map aA7)).cps.toList=[]:=h9;replace h9:=(e ..)▸h9;cases h9
 ·exact ⟨h1,h2⟩
theorem cM7 (rows:List Str) (xs:List Int):∀ d∈(aC0 rows xs).2,okW d:=by
 intro d hd;(refine aJ9 (getElem?_of_mem hd) ?_;intro j hj)
 have hjl:=(List.getElem?_eq_some_iff.mp hj).1;rw [bM0] at hjl;rw [cQ6 rows xs j _ (getElem?_eq_getElem hjl)] at hj;clear hd;obtain rfl:=Option.some.inj hj;exact dA2
theorem cH9 {n m:Nat}:bitC (n:Int) (m:Int)=true↔∀ k,m.testBit k=true→n.testBit k=true:=by
 (refine rwg (show decide (0≤(n:Int))=true from decide_eq_true (Int.natCast_nonneg n)) ?_;refine rwg (show decide (0≤(m:Int))=true from decide_eq_true (Int.natCast_nonneg m)) ?_)
 refine ((beq_iff_eq (α:=Int)).trans Int.ofNat_inj).trans ⟨fun h k hk=>?_,fun h=>Nat.eq_of_testBit_eq fun k=>?_⟩
 ·have h:n &&& m=m:=h;rw [← h,Nat.testBit_and] at hk;exact (Bool.and_eq_true_iff.mp hk).1
 ·refine (?_:(n &&& m).testBit k=m.testBit k);refine rwg (Nat.testBit_and ..) ?_;cases hk:m.testBit k with
  | true=>refine rwg (h k hk ..) ?_;rfl
  | false=>exact Bool.and_false _
theorem bT8 (n i:Nat):n.testBit i=decide (n / 2 ^ i % 2=1):=Nat.testBit_eq_decide_div_mod_eq
theorem bG5 (n i:Nat):bitC (n:Int) ((2 ^ i:Nat):Int)=n.testBit i:=by
 rw [Bool.eq_iff_iff,cH9];refine ⟨fun h=>h i Nat.testBit_two_pow_self,fun h k hk=>?_⟩;by_cases e:i=k
 ·exact e▸h
 ·replace hk:=(Nat.testBit_two_pow_of_ne e ..)▸hk;cases hk
theorem cZ3 (n i j:Nat):bitC (n:Int) ((2 ^ i|||2 ^ j:Nat):Int)=(n.testBit i && n.testBit j):=by
 rw [Bool.eq_iff_iff,cH9,Bool.and_eq_true];refine ⟨fun h=>⟨h i ?_,h j ?_⟩,fun h k hk=>?_⟩
 ·rw [Nat.testBit_or,Nat.testBit_two_pow_self];rfl
 ·rw [Nat.testBit_or,Nat.testBit_two_pow_self];exact Bool.or_true _
 ·(replace hk:=(Nat.testBit_or ..)▸hk;replace hk:=(Bool.or_eq_true ..)▸hk)
  by_cases e:i=k
  ·exact e▸h.1
  by_cases e2:j=k
  ·exact e2▸h.2
  (replace hk:=(Nat.testBit_two_pow_of_ne e ..)▸hk;replace hk:=(Nat.testBit_two_pow_of_ne e2 ..)▸hk)
  cases hk<;>contradiction
theorem cK9 {n:Nat} (h:n < 65536):n &&& 61440=n / 4096 * 4096:=by
 refine Nat.eq_of_testBit_eq fun k=>?_;(refine rwg (show 61440=(2 ^ 4 - 1) <<< 12 from rfl) ?_;refine rwg (show n / 4096 * 4096=(n >>> 12) <<< 12 by rw [Nat.shiftLeft_eq,Nat.shiftRight_eq_div_pow]) ?_;refine rwg (Nat.testBit_and ..) ?_;refine rwg (Nat.testBit_shiftLeft ..) ?_;refine rwg (Nat.testBit_shiftLeft ..) ?_;refine rwg (Nat.testBit_two_pow_sub_one ..) ?_;refine rwg (Nat.testBit_shiftRight ..) ?_)
 by_cases h1:k ≥ 12
 ·rw [Nat.add_sub_cancel' h1,decide_eq_true h1,Bool.true_and,Bool.true_and];by_cases h2:k - 12 < 4
  ·rw [decide_eq_true h2,Bool.and_true]
  ·(refine rwg (Nat.testBit_lt_two_pow (lt_of_lt_of_le h (show 65536≤2 ^ k from Nat.pow_le_pow_right (n:=2) (i:=16) (by decide) (by (clear h h1;omega)))) ..) ?_;refine rwg (Bool.false_and ..) ?_;rfl)
 ·rw [decide_eq_false h1,Bool.false_and,Bool.false_and,Bool.and_false]
theorem dm (n m:Nat):((n:Int).fdiv (m:Int))=((n / m:Nat):Int)∧((n:Int).fmod (m:Int))=((n % m:Nat):Int):=⟨by refine rwg (Int.fdiv_eq_ediv_of_nonneg _ (Int.natCast_nonneg m) ..) ?_;rfl,by refine rwg (Int.fmod_eq_emod_of_nonneg _ (Int.natCast_nonneg m) ..) ?_;rfl⟩
theorem pow_c (a k:Nat):(a:Int) ^ k=((a ^ k:Nat):Int):=(Int.natCast_pow a k).symm
theorem cV5 (x:Nat):(((x:Nat):Int)==1)=decide (x=1):=by rw [Bool.eq_iff_iff,beq_iff_eq,decide_eq_true_iff];exact Int.ofNat_inj (n:=1)
theorem tb3 (x:Nat):decide ((3:Int) < ((x % 8:Nat):Int))=x.testBit 2:=by
 (refine rwg (bT8 ..) ?_;refine rwg (show x / 2 ^ 2 % 2=x % 8 / 4 from (Nat.mod_mul_right_div_self x 4 2).symm) ?_)
 exact (show ∀ y:Fin 8,decide ((3:Int) < ((y.1:Nat):Int))=decide (y.1 / 4=1) by decide) ⟨x % 8,Nat.mod_lt _ (by decide)⟩
theorem tb8 (x:Nat):decide (x % 8 / 2 % 2=1)=decide (x / 2 ^ 1 % 2=1):=by (refine rwg (show x % 8 / 2=x / 2 % 4 from Nat.mod_mul_right_div_self x 2 4) ?_;refine rwg (Nat.mod_mod_of_dvd _ (by decide) ..) ?_;rfl)
theorem oct_is (n k:Nat):((n:Int).fdiv (8 ^ k)).fmod 8=((n / 2 ^ (3 * k) % 8:Nat):Int):=by
 (refine rwg (show (8:Int) ^ k=((2 ^ (3 * k):Nat):Int) by rw [Nat.pow_mul];exact pow_c 8 k) ?_;refine rwg ((dm _ _).1) ?_)
 exact (dm _ 8).2
theorem tri_is (n k:Nat) (v A B:Str):bV7 (n:Int) v (k:Int) A B=v++(if n.testBit (2 + 3 * k)=true then ofString "r" else ofString "-")++(if n.testBit (1 + 3 * k)=true then ofString "w" else ofString "-") ++
  (if (n.testBit (k + 9) && n.testBit (3 * k))=true then A else if n.testBit (k + 9)=true then B else if n.testBit (3 * k)=true then ofString "x" else ofString "-"):=by
 have ew:(((((n / 2 ^ (3 * k) % 8:Nat):Int).fdiv 2).fmod 2)==1)=n.testBit (1 + 3 * k):=by
  rw [show ((n / 2 ^ (3 * k) % 8:Nat):Int).fdiv 2=_ from (dm _ 2).1];refine ((congrArg (·==(1:Int)) (show ((_:Nat):Int).fmod 2=_ from (dm _ 2).2)).trans (cV5 _)).trans ?_;rw [← Nat.testBit_div_two_pow];exact (tb8 _).trans (bT8 _ 1).symm
 have ex:((((n / 2 ^ (3 * k) % 8:Nat):Int).fmod 2)==1)=n.testBit (3 * k):=by
  refine ((congrArg (·==(1:Int)) (show ((_:Nat):Int).fmod 2=_ from (dm _ 2).2)).trans (cV5 _)).trans ?_;rw [Nat.mod_mod_of_dvd _ (by decide),bT8]
 have eh:((((n:Int).fdiv 512).fdiv (2 ^ k)).fmod 2==1)=n.testBit (k + 9):=by
  rw [show (n:Int).fdiv 512=_ from (dm _ 512).1,show (2:Int) ^ k=_ from pow_c 2 k,(dm _ _).1];refine ((congrArg (·==(1:Int)) (show ((_:Nat):Int).fmod 2=_ from (dm _ 2).2)).trans (cV5 _)).trans ?_;(refine rwb (Nat.testBit_div_two_pow ..) ?_;refine rwg (bT8 ..) ?_;rfl)
 unfold bV7;(refine rwg (Int.toNat_natCast ..) ?_;refine rwg (oct_is ..) ?_;refine rwg (tb3 ..) ?_;refine rwg (ew ..) ?_;refine rwg (ex ..) ?_;refine rwg (eh ..) ?_;refine rwg (Nat.testBit_div_two_pow ..) ?_)
 congr 1
 cases n.testBit (k + 9)<;>cases n.testBit (3 * k)<;>rfl
theorem bG2 (n k i:Nat) (v A B:Str) (m1 m2 m3 m4 m5:Nat) (h1:m1=2 ^ (2 + 3 * k)) (h2:m2=2 ^ (1 + 3 * k)) (h3:m3=2 ^ (k + 9)|||2 ^ (3 * k)) (h4:m4=2 ^ (k + 9)) (h5:m5=2 ^ (3 * k)) :
  bV7 (n:Int) v (k:Int) A B=v++(aK n (i + 1) [((m1:Int),ofString "r")]++(aK n (i + 2) [((m2:Int),ofString "w")]++aK n (i + 3) [((m3:Int),A),((m4:Int),B),((m5:Int),ofString "x")])):=by
 subst h1 h2 h3 h4 h5;(refine rwg (tri_is ..) ?_;refine rwb (aG1 ..) ?_;refine rwb (aG1 ..) ?_;refine rwb (cZ3 ..) ?_;refine rwb (bG5 ..) ?_;refine rwb (bG5 ..) ?_;refine rwb (bG5 ..) ?_;refine rwb (bG5 ..) ?_);rfl
theorem cQ2 {n:Nat} (h:n < 65536) (c:Nat):cX (n:Int) 0 ((c * 4096:Nat):Int)=decide ((n:Int).fdiv 4096=(c:Int)):=by
 refine (?_:((Builtin.bitAnd (n:Int) ((61440:Nat):Int))==_)=decide ((n:Int).fdiv ((4096:Nat):Int)=_));unfold Builtin.bitAnd;rw [show decide (0≤(n:Int))=true from decide_eq_true (Int.natCast_nonneg n),show decide (0≤((61440:Nat):Int))=true from rfl,(dm _ _).1,Bool.eq_iff_iff,decide_eq_true_iff];refine ((beq_iff_eq (α:=Int)).trans Int.ofNat_inj).trans (Iff.trans ?_ Int.ofNat_inj.symm);refine (?_:n &&& 61440=_↔_);rw [cK9 h];exact ⟨Nat.eq_of_mul_eq_mul_right (by decide),fun h=>by rw [h]⟩
theorem cW5 {n:Nat} (h:n < 65536):aK (n:Int) 0 [(40960,ofString "l"),(49152,ofString "s"),(32768,ofString "-"),(24576,ofString "b"),(16384,ofString "d"),(8192,ofString "c"),(4096,ofString "p")]=bM2 ((n:Int).fdiv 4096):=by
 have e:∀ (c:Nat) (k:Int) (A B C:Str),k=((c * 4096:Nat):Int)→B=C→(if cX (n:Int) 0 k=true then A else B)=if (n:Int).fdiv 4096=(c:Int) then A else C:=fun c k A B C hk hB=>by
  subst hk hB;refine rwg (cQ2 h c ..) ?_;by_cases h:(n:Int).fdiv 4096=(c:Int)
  ·(refine rwg (decide_eq_true h ..) ?_;refine rwg (if_pos h ..) ?_;refine rwg (if_pos rfl ..) ?_;rfl)
  ·(refine rwg (decide_eq_false h ..) ?_;refine rwg (if_neg h ..) ?_;refine rwg (if_neg Bool.false_ne_true ..) ?_;rfl)
 exact e 10 _ _ _ _ rfl (e 12 _ _ _ _ rfl (e 8 _ _ _ _ rfl (e 6 _ _ _ _ rfl (e 4 _ _ _ _ rfl (e 2 _ _ _ _ rfl (e 1 _ _ _ _ rfl rfl))))))
theorem cat10 (a b c d e f g h i j:Str):aB1 [a,b,c,d,e,f,g,h,i,j]=((a++(b++(c++d)))++(e++(f++g)))++(h++(i++j)):=by
 rw [← aG1,← aG1,← aG1,← aG1,← aG1,← aG1];exact congrArg (fun x=>a++(b++(c++(d++(e++(f++(g++(h++(i++x))))))))) (bJ7 j)
theorem sig_fm (b:Int) (h0:0≤b) (h1:b < 65536):Txt.join (ofString "") (fmL b)=aE6 b:=by
 (refine aJ9 (Int.eq_ofNat_of_zero_le h0) ?_;intro n eo0;subst eo0)
 have hn:n < 65536:=Int.ofNat_lt.mp h1;refine (?_:_=bV7 (n:Int) (bV7 (n:Int) (bV7 (n:Int) (bM2 ((n:Int).fdiv 4096)) ((2:Nat):Int) (ofString "s") (ofString "S")) ((1:Nat):Int) (ofString "s") (ofString "S")) ((0:Nat):Int) (ofString "t") (ofString "T"));(refine rwg (bG2 n 2 0 _ _ _ 256 128 2112 2048 64 rfl rfl rfl rfl rfl) ?_;refine rwg (bG2 n 1 3 _ _ _ 32 16 1032 1024 8 rfl rfl rfl rfl rfl) ?_;refine rwg (bG2 n 0 6 _ _ _ 4 2 513 512 1 rfl rfl rfl rfl rfl) ?_;refine rwb (cW5 hn ..) ?_;refine rwg (aL0 ..) ?_)
 exact cat10 ..
noncomputable def cJ1 (sg:Str) (zs:List Int):List Int:=match zs with | []=>[] | z::_=>aJ2 z (sg.length + 1)
theorem cE6 {sg:Str} {zs:List Int} (h:Pl sg zs):cJ1 sg (cJ1 sg zs)=cJ1 sg zs:=by
 cases zs with
 | nil=>rfl
 | cons z r =>
  have hz:=h.mem z (.head _);refine (?_:cJ1 sg (aJ2 z (sg.length + 1))=aJ2 z (sg.length + 1));obtain ⟨n,hn⟩:∃ n,(((sg.length:Int) + 1) - z).toNat=n + 1:=⟨(((sg.length:Int) + 1) - z).toNat - 1,by lia⟩;have e:aJ2 z (sg.length + 1)=z::(aJ2 z (sg.length + 1)).tail:=by
   unfold aJ2 rangeInts;(refine rwg (hn ..) ?_;refine rwg (List.range_succ_eq_map ..) ?_)
   simp
  refine rwg (e ..) ?_;refine (?_:aJ2 z (sg.length + 1)=_);exact e
theorem no_in (c:Nat):Txt.contains (ofString "") ⟨#[c]⟩=false:=by
 have h:=aW6 (x:=ofString "") (c:=c) (lo:=0) (hi:=0) (le_refl _);unfold aW4 at h;have e:(ofString "").length=0:=by decide +kernel
 unfold Txt.contains;refine rwg (e ..) ?_
 revert h
 cases Builtin.Str.occurrences (ofString "") ⟨#[c]⟩ 0 0 1 with
 | nil=>intro _;rfl
 | cons k r =>
  intro h;have h:(k:Int)=-1:=h;(clear e;lia)
theorem bY (sg:Str) (zs:List Int):aJ8 sg (ofString "") false zs=[]:=by
 unfold aJ8;(refine rwg (show (zs.filter fun n=>decide (n < (sg.length:Int)) && (Txt.contains (ofString "") (Txt.item sg n) != false))=[] from List.filter_eq_nil_iff.mpr fun n u_=>by rw [show Txt.item sg n=⟨#[(Txt.charAt sg n).getD 0]⟩ from rfl,no_in];simp) ?_)
 rfl
theorem bX6 {sg:Str} {zs:List Int}:∀ k,k < 12→k≠0→aB3 sg zs (.txt (aC5 k))=aC4 sg zs (bL6 k):=by
 have key:∀ k∈List.range 12,k≠0→(aC5 k=ofString "(?!)"∧k=10)∨(aC5 k≠ofString "(?!)"∧bO9 (aC5 k)=(bL6 k).some∧cX8 (aC5 k)=(bL6 k).barred):=by decide +kernel
 have key2:∀ k∈List.range 12,k≠0→((bL6 k).text==ofString "*")=false:=by decide +kernel
 intro k hk h0;have hm:=key2 k (List.mem_range.mpr hk) h0;have e:aC4 sg zs (bL6 k)=aJ8 sg (bL6 k).some (bL6 k).barred zs:=by
  cases zs with
  | nil=>rfl
  | cons z r=>exact aT4 hm
 rw [e];clear hm e;rcases key k (List.mem_range.mpr hk) h0 with ⟨h1,rfl⟩ | ⟨h1,h2,h3⟩
 ·refine (?_:(if aC5 10=ofString "(?!)" then [] else aJ8 sg (bO9 (aC5 10)) (cX8 (aC5 10)) zs)=_);rw [if_pos h1];exact (bY sg zs).symm
 ·refine (?_:(if aC5 k=ofString "(?!)" then [] else aJ8 sg (bO9 (aC5 k)) (cX8 (aC5 k)) zs)=_);(refine rwg (if_neg h1 ..) ?_;refine rwg (h2 ..) ?_;refine rwg (h3 ..) ?_;rfl)
theorem bV8 {sg:Str} {zs:List Int}:aB3 sg zs .star=aC4 sg zs (bL6 0):=by
 cases zs with
 | nil=>rfl
 | cons z r=>exact (aS4 (it:=bL6 0) (by decide +kernel)).symm
theorem cC0 {sg:Str} {zs:List Int}:aB3 sg zs .star=cJ1 sg zs:=rfl
set_option tactic.hygienic true in
theorem aX6 {sg:Str}:∀ (ks:List Nat) (acc:List Part),(∀ k∈ks,k < 12)→(ks.foldl aC8 acc).foldl (aB3 sg) [0]=(ks.map bL6).foldl (aC4 sg) (acc.foldl (aB3 sg) [0])
 | [],acc,_=>rfl
 | k::r,acc,hk=>by
  refine (?_:(r.foldl aC8 (aC8 acc k)).foldl (aB3 sg) [0]=(r.map bL6).foldl (aC4 sg) (aC4 sg (acc.foldl (aB3 sg) [0]) (bL6 k)));rw [aX6 r (aC8 acc k) fun j hj=>hk j (.tail _ hj)]
  congr 1
  by_cases h0:k=0
  ·clear hk;subst h0;rw [← bV8];unfold aC8;rw [if_pos rfl];split
   ·rename_i hl;obtain ⟨acc0,rfl⟩:∃ a,acc=a++[.star]:=by
     have hne:acc≠[]:=fun e=>by replace hl:=(e ..)▸hl;cases hl
     refine ⟨acc.dropLast,?_⟩;have h2:=List.dropLast_concat_getLast hne;replace hl:=(List.getLast?_eq_some_getLast hne ..)▸hl;replace h2:=(Option.some.inj hl ..)▸h2;exact h2.symm
    rw [foldl_append];refine (?_:aB3 sg (acc0.foldl (aB3 sg) [0]) .star=aB3 sg (aB3 sg (acc0.foldl (aB3 sg) [0]) .star) .star);(refine rwg (cC0 ..) ?_;refine rwg (cC0 ..) ?_;refine rwg (cE6 (bF (.zero sg)) ..) ?_;rfl)
   ·refine rwg (foldl_append ..) ?_;rfl
  ·unfold aC8;(refine rwg (if_neg h0 ..) ?_;refine rwg (foldl_append ..) ?_)
   exact bX6 k (hk k (.head _)) h0
theorem bS5 {ns:List Int} {b:Int} (h:b∈aC6 ns):0≤b∧b < 65536:=by
 unfold aC6 at h;simp only [mem_cons,not_mem_nil,or_false] at h
 rcases h with rfl | rfl | rfl | rfl
 ·decide
 ·decide
 ·decide
 ·exact ⟨Int.fmod_nonneg_of_pos _ (by decide),Int.fmod_lt_of_pos _ (by decide)⟩
theorem tm_ok (b x:Int) (h0:0≤b) (h1:b < 65536):cG0 (Txt.join (ofString "") (fmL b)) (aC1 (x.fdiv 5))=aI7 (aE6 b) (aE1 x):=by
 refine rwg (sig_fm b h0 h1 ..) ?_;unfold cG0 aI7 bC6 aN7 aE1;refine rwg (aX6 _ [] (aI4 _) ..) ?_;rfl
theorem cH6 (ns:List Int) (i:Nat):((xsF ns).take i).length≤12:=by
 rw [length_take,xsF,List.length_append,length_take];refine (?_:min i (min 4 ns.length + 8)≤12);lia
theorem aK8 {α:Type} {f:α→AV} {xs:List α} {i:Nat} {c:AV} (h:(xs.map f)[i]?=some c):∃ b,c=f b∧xs.take (i + 1)=xs.take i++[b]:=by
 rw [getElem?_map] at h;(refine aB9 h ?_;intro b hb eo0;subst eo0)
 (refine aH5 hb ?_;intro hi e)
 exact (aA0 (b) (rfl) (by (refine rwg (take_succ_eq_append_getElem hi ..) ?_;refine rwg (e ..) ?_;rfl)))
noncomputable def aF2 (ns:List Int):List Str:=(aC6 ns).map aE6
theorem cE9 {x:Int} (h5:0≤x.fmod 5) (h5':x.fmod 5 < 5):[AV.str (ofString "not"),.str (ofString "and"),.str (ofString "or"),.str (ofString "="),.str (ofString "=")][(if x.fmod 5 < 0 then x.fmod 5 + ([AV.str (ofString "not"),.str (ofString "and"),.str (ofString "or"),.str (ofString "="),.str (ofString "=")].length:Nat) else x.fmod 5).toNat]?=some (.str (aI5 x)):=by
 unfold aI5;refine rwg (if_neg (by (clear h5';omega)) ..) ?_;generalize x.fmod 5=d at *;obtain ⟨k,rfl⟩:=Int.eq_ofNat_of_zero_le h5;refine rwg (Int.toNat_natCast ..) ?_;rcases k with _ | _ | _ | _ | _ | k
 all_goals first | rfl | (exfalso;(clear h5;lia))
theorem bG4 {G:Gx} {σ:St} {pre rest:List AO} {N:Nat} {x:Int} (h:σ.obj=pre++(itemsTable.map aO8++rest)) (hN:pre.length=N) (i:Nat) (b:AV) (it:Item) (hb:((aC1 x).map fun k=>AV.obj (N + k))[i]?=some b) (hit:((aC1 x).map bL6)[i]?=some it):aY9 G σ b=some (aO8 it):=by
 rw [getElem?_map] at hb hit;(refine aB9 hb ?_;intro k hk eo0;subst eo0)
 replace hit:=(hk ..)▸hit;cases hit
 have hk12:=aI4 x k (mem_of_getElem? hk);refine (?_:σ.obj[N + k]?=_);(refine rwg (h ..) ?_;refine rwg (getElem?_append_right (by (clear h hk hb hk12;lia)) ..) ?_;refine rwg (hN ..) ?_;refine rwg (Nat.add_sub_cancel_left ..) ?_;refine rwg (getElem?_append_left (by rw [length_map];exact hk12) ..) ?_;refine rwg (getElem?_map ..) ?_)
 rcases k with _ | _ | _ | _ | _ | _ | _ | _ | _ | _ | _ | _ | k
 all_goals first | rfl | (exfalso;(clear h hN hk hb;lia))
theorem bV1 {G:Gx} {σ:St} {pre rest:List AO} {N k:Nat} (h:σ.obj=pre++(itemsTable.map aO8++rest)) (hN:pre.length=N) (hk:k < 12):aB G σ (.obj (N + k))=some [.str (aA7 k),.str (bL6 k).some,.bool (bL6 k).barred]:=by
 refine (?_:(σ.obj[N + k]?).bind AO.list?=_);(refine rwg (h ..) ?_;refine rwg (getElem?_append_right (by omega) ..) ?_;refine rwg (hN ..) ?_;refine rwg (Nat.add_sub_cancel_left ..) ?_;refine rwg (getElem?_append_left (by rw [length_map];exact hk) ..) ?_;refine rwg (getElem?_map ..) ?_)
 rcases k with _ | _ | _ | _ | _ | _ | _ | _ | _ | _ | _ | _ | k
 all_goals first | rfl | (exfalso;omega)
theorem aZ8 {α:Type} {f:α→AV} {xs:List α} {i:Nat} {c:AV} (h:(xs.map f)[i]?=some c):∃ b,c=f b∧b∈xs∧xs.take (i + 1)=xs.take i++[b]:=by
 rw [getElem?_map] at h;(refine aB9 h ?_;intro b hb eo0;subst eo0)
 (refine aH5 hb ?_;intro hi e)
 exact (aM1 (b) (rfl) (mem_of_getElem? hb) (by (refine rwg (take_succ_eq_append_getElem hi ..) ?_;refine rwg (e ..) ?_;rfl)))
theorem cL1 (a b c:AV):-((([a,b,c].length:Nat)):Int)≤0∧(0:Int) < (([a,b,c].length:Nat):Int)∧[a,b,c].length≤16777216:=⟨by refine (?_:-(3:Int)≤0);decide,by refine (?_:(0:Int) < 3);decide,by refine (?_:3≤16777216);decide⟩
theorem bN (b:Int):(aE6 b).length≤90:=le_trans (bO3 b 3) (by decide)
theorem cN8 {bs:List Addr} (h:bs≠[]):aD6 AV.int? (bs.map AV.fz)=none:=by
 cases bs with
 | nil=>exact absurd rfl h
 | cons b r=>rfl
theorem cZ9 {w:Str} (h:(w==ofString "not")=true) (h2:(([ofString "and",ofString "or"].any fun x=>x==w)==true)=true):False:=by
 obtain rfl:=eq_of_beq h
 revert h2;decide +kernel
theorem cI2 {n:Nat} {x:Int} (h:aI5 x=ofString "not") (hn:n≠0):aD3 n x=ofString "not":=by
 unfold aD3;rw [h,show (n==0)=false from beq_eq_false_iff_ne.mpr hn,show aS9 (ofString "not")=false by decide +kernel,Bool.and_false,Bool.false_and,Bool.or_false,if_neg Bool.false_ne_true]
theorem cH4 {n:Nat} {x:Int} (h:(aI5 x==ofString "not")=false) (h2:(([ofString "and",ofString "or"].any fun y=>y==aI5 x)==true)=true) (hn:n < 2):aD3 n x=ofString "=":=by
 unfold aD3;(refine rwg (h ..) ?_;refine rwg (show aS9 (aI5 x)=true from eq_of_beq h2) ?_;refine rwg (show decide (n < 2)=true from decide_eq_true hn) ?_;refine rwg (Bool.false_and ..) ?_;refine rwg (Bool.true_and ..) ?_;refine rwg (Bool.false_or ..) ?_;refine rwg (if_pos rfl ..) ?_;rfl)
theorem bD9 {rows:List Str} {xs:List Int} {x:Int} {w:Str} (hw:aD3 (aC0 rows xs).1.length x=w):aC0 rows (xs++[x])=(aO6 (aC0 rows xs).1 w (rows.map fun sg=>aI7 sg (aE1 x)),(aC0 rows xs).2++[⟨w,aC1 (x.fdiv 5),x⟩]):=by
 subst hw;unfold aC0;refine rwg (foldl_append ..) ?_;rfl
theorem bI9 {ds:List Wd1} {d:Wd1}:aB2 (ds++[d])=aB2 ds++aD4 d.text d.x:=by
 unfold aB2;refine rwg (map_append ..) ?_;exact bG _ _
theorem bN3 {w:Str} {k:List Nat} {x:Int} (h:(w==ofString "=")=false):Wd1.text ⟨w,k,x⟩=w:=if_neg (by refine rwg (h ..) ?_;exact Bool.false_ne_true)
theorem cA5 {k:List Nat} {x:Int}:Wd1.text ⟨ofString "=",k,x⟩=ofString "="++aB1 (k.map aA7):=if_pos (by refine (?_:(ofString "="==ofString "=")=true);decide +kernel)
theorem bL2 {xs:List AV} (h:xs.all aV2=true) (k:Nat) (a:Addr):xs.map (aM3 k a)=xs:=by
 induction xs with
 | nil=>rfl
 | cons b r ih =>
  (replace h:=(all_cons ..)▸h;replace h:=(Bool.and_eq_true ..)▸h)
  (refine rwg (map_cons ..) ?_;refine rwg (ih h.2 ..) ?_)
  congr 1
  cases b<;>first | rfl | (have:=h.1;cases this)
theorem aD {n0 k:Nat} {sel:List Nat} {a:Addr} {xs:List AV} (h:xs.all aV2=true):bK6 n0 sel (cR4 k a (.list xs))=some (.list xs):=by
 refine (?_:bK6 n0 sel (.list (xs.map (aM3 k a)))=_);refine rwg (bL2 h ..) ?_;exact aA2 h
theorem bH8 {α:Type} (f:α→Str) (l:List α):(l.map fun b=>AV.str (f b)).all aV2=true:=by refine rwg (all_map ..) ?_;exact all_eq_true.mpr fun u_ u_=>rfl
theorem aO5 (bs:List Addr) (a:Addr):(bs.map AV.fz++[AV.fz a]).all aV2=true:=by
 (refine rwg (show bs.map AV.fz++[AV.fz a]=(bs++[a]).map AV.fz by rw [map_append];rfl) ?_;refine rwg (all_map ..) ?_)
 exact all_eq_true.mpr fun u_ u_=>rfl
theorem cU7 (a b:List Int):(a.map AV.int++b.map AV.int).all aV2=true:=by refine rwb (map_append ..) ?_;exact aB6 _
theorem aK1 {n0 k:Nat} {sel:List Nat} {a:Addr} {bs:List Addr}:bK6 n0 sel (cR4 k a (.list (bs.map .fz++[.obj k])))=some (.list (bs.map .fz++[.fz a])):=by
 refine (?_:bK6 n0 sel (.list ((bs.map AV.fz++[AV.obj k]).map (aM3 k a)))=_);rw [map_append,bL2 (by rw [all_map];exact all_eq_true.mpr fun u_ u_=>rfl)];have e:[AV.obj k].map (aM3 k a)=[.fz a]:=by
  refine (?_:[match k==k with | true=>AV.fz a | false=>.obj k]=_);(refine rwg (beq_self_eq_true ..) ?_;rfl)
 refine rwg (e ..) ?_;exact aA2 (aO5 bs a)
theorem two_g {w:Str} (h:(([ofString "and",ofString "or"].any fun y=>y==w)==true)=true):∃ g:Bool→Bool→Bool,w=ofString "and"∧g=and∨w=ofString "or"∧g=or:=by
 have h:=eq_of_beq h;simp only [any_cons,any_nil,Bool.or_false,Bool.or_eq_true] at h
 rcases h with h | h
 ·exact ⟨and,.inl ⟨(eq_of_beq h).symm,rfl⟩⟩
 ·exact ⟨or,.inr ⟨(eq_of_beq h).symm,rfl⟩⟩
theorem bW1 {n:Nat} {x:Int} (h2:(([ofString "and",ofString "or"].any fun y=>y==aI5 x)==true)=true) (hn:2≤n):aD3 n x=aI5 x:=by
 unfold aD3;(refine rwg (show (aI5 x==ofString "not")=false by (refine aJ9 (two_g h2) ?_;intro g h);rcases h with ⟨h,_⟩ | ⟨h,_⟩<;>rw [h]<;>decide +kernel) ?_;refine rwg (show decide (n < 2)=false from decide_eq_false (by (clear h2;lia))) ?_;refine rwg (Bool.and_false ..) ?_;refine rwg (Bool.false_and ..) ?_;refine rwg (Bool.or_false ..) ?_;refine rwg (if_neg Bool.false_ne_true ..) ?_;rfl)
structure FinOk (ns:List Int):Prop where
 len:(aC0 (aF2 ns) (xsF ns)).2.length=(xsF ns).length
 txt:(aB2 (aC0 (aF2 ns) (xsF ns)).2).length≤1000
 at_:∀ (j:Nat) (x:Int),(xsF ns)[j]?=some x→(aC0 (aF2 ns) (xsF ns)).2[j]?=some ⟨aD3 (aC0 (aF2 ns) ((xsF ns).take j)).1.length x,aC1 (x.fdiv 5),x⟩
 tok:∀ (j:Nat) (t:Str),(aG0 (aC0 (aF2 ns) (xsF ns)).2)[j]?=some t→aA9 (bH3 (aC0 (aF2 ns) (xsF ns)).2 j)=(t,bH3 (aC0 (aF2 ns) (xsF ns)).2 (j + 1))
 tm:∀ (b:Int),b∈aC6 ns→∀ x:Int,cG0 (Txt.join (ofString "") (fmL b)) (aC1 (x.fdiv 5))=aI7 (aE6 b) (aE1 x)
theorem fin_ok (ns:List Int):FinOk ns where
 len:=bM0 _ _
 txt:=le_trans (aO9 _ _) (by have:=cH6 ns 12;rw [length_take] at this;have h:(xsF ns).length≤12:=(by rw [xsF,List.length_append,length_take];refine (?_:min 4 ns.length + 8≤12);(clear this;lia));(clear this;lia))
 at_:=cQ6 _ _
 tok:=cY3 (cM7 _ _)
 tm:=fun b hb x=>tm_ok b x (bS5 hb).1 (bS5 hb).2
theorem aX2 {P:Params} {n:Nat} {base:List AO} {x:Str} {σ:St} {K:AV→St→Prop} (h:x.length≤1000) (hK:∀ b,K (.val (.ref b)) ⟨σ.loc,σ.obj,⟨bZ6 b x,σ.wd.fz⟩⟩):aG6 (aF4 (aF8 P) n base (.ref 175) [.str x] σ K):=by
 refine bB0 ?_;cases n<;>exact ⟨h,hK⟩
theorem bR0 {P:Params} {n:Nat} {base:List AO} {x:Str} {a:Addr} {l:List (Str × AV)} {o:List AO} {f:Addr→Option AO} {K:AV→St→Prop} (hK:∀ b,K (.val (.ref b)) ⟨l,o,⟨bH b (signs x),f⟩⟩):aG6 (aF4 (aF8 P) n base (.ref 147) [.val (.ref a)] ⟨l,o,⟨bZ6 a x,f⟩⟩ K):=by
 refine bB0 ?_;cases n<;>exact (aA0 (x) (rfl) (hK))
theorem aO3 {P:Params} {n:Nat} {base:List AO} {xs ys:List Str} {t:Str} {a:Addr} {l:List (Str × AV)} {o:List AO} {f:Addr→Option AO} {K:AV→St→Prop} (h:aA9 xs=(t,ys)) (hK:K (.str t) ⟨l,o,⟨bH a ys,f⟩⟩):aG6 (aF4 (aF8 P) n base (.ref 137) [.val (.ref a)] ⟨l,o,⟨bH a xs,f⟩⟩ K):=by
 refine bB0 ?_;cases n<;>exact (aA0 (xs) (rfl) (by refine rwg (h ..) ?_;exact hK))
theorem bS2 {w:Wd} {a:Addr} {r:List Value} (h:w.v=.none::.ref a::r):bJ1 w a (ofString "get_token")=some 137:=by
 unfold bJ1;refine rwg (h ..) ?_;refine (?_:(match a==a && ofString "get_token"==ofString "get_token" with | true=>some 137 | false=>none)=_);(refine rwg (beq_self_eq_true ..) ?_;refine rwg (beq_self_eq_true ..) ?_);rfl
noncomputable def endsT:List Str:=[ofString "a b",ofString "a",ofString "a",ofString ""]
theorem bI {G:Gx} {σ:St} {n k:Nat} {ss:List Str} (h:aB G σ (.obj k)=some (ss.map .str)):aS1 G σ (n + 2) (.obj k)=some (.l (ss.map .s)):=by
 refine (?_:((aB G σ (.obj k)).bind fun xs=>(aD6 (aS1 G σ (n + 1)) xs).map Tr.l)=_);refine rwg (h ..) ?_;have e:∀ ss:List Str,aD6 (aS1 G σ (n + 1)) (ss.map .str)=some (ss.map .s):=by
  intro ss
  induction ss with
  | nil=>rfl
  | cons a r ih =>
   refine (?_:(some (Tr.s a)).bind (fun x=>(aD6 (aS1 G σ (n + 1)) (r.map .str)).map (x::·))=_);refine rwg (ih ..) ?_;rfl
 refine (?_:(aD6 _ _).map _=_);refine rwg (e ..) ?_;rfl
theorem bU1 {G:Gx} {σ:St} {n k:Nat} {x y:AV} {tx ty:Tr} (h:aB G σ (.obj k)=some [x,y]) (hx:aS1 G σ n x=some tx) (hy:aS1 G σ n y=some ty):aS1 G σ (n + 1) (.obj k)=some (.l [tx,ty]):=by
 refine (?_:((aB G σ (.obj k)).bind fun xs=>(aD6 (aS1 G σ n) xs).map Tr.l)=_);refine rwg (h ..) ?_;refine (?_:((aS1 G σ n x).bind fun u=>((aS1 G σ n y).bind fun v=>some [v]).map (u::·)).map _=_);(refine rwg (hx ..) ?_;refine rwg (hy ..) ?_);rfl
theorem cB2 {G:Gx} {σ:St} {n:Nat} {a:Addr} {bs:List Addr} {D:List (List Bool)} (h1:aB G σ (.fz a)=some (bs.map .fz)) (h2:∀ (i:Nat) b xs,bs[i]?=some b→D[i]?=some xs→aB G σ (.fz b)=some (xs.map .bool)) (hl:bs.length=D.length) :
  aS1 G σ (n + 3) (.fz a)=some (.l (D.map fun d=>.l (d.map .b))):=by
 have eb:∀ xs:List Bool,aD6 (aS1 G σ (n + 1)) (xs.map .bool)=some (xs.map .b):=by
  intro xs
  induction xs with
  | nil=>rfl
  | cons a r ih =>
   refine (?_:(some (Tr.b a)).bind (fun x=>(aD6 (aS1 G σ (n + 1)) (r.map .bool)).map (x::·))=_);refine rwg (ih ..) ?_;rfl
 refine (?_:((aB G σ (.fz a)).bind fun xs=>(aD6 (aS1 G σ (n + 2)) xs).map Tr.l)=_);refine rwg (h1 ..) ?_;refine (?_:(aD6 (aS1 G σ (n + 2)) (bs.map .fz)).map _=_);have e:∀ (bs:List Addr) (D:List (List Bool)),bs.length=D.length→(∀ (i:Nat) b xs,bs[i]?=some b→D[i]?=some xs→aB G σ (.fz b)=some (xs.map .bool))→aD6 (aS1 G σ (n + 2)) (bs.map .fz)=some (D.map fun d=>.l (d.map .b)):=by
  intro bs
  induction bs with
  | nil=>intro D hl _;cases D with | nil=>rfl | cons=>cases hl
  | cons b r ih =>
   intro D hl h;cases D with
   | nil=>cases hl
   | cons d D =>
    refine (?_:((aB G σ (.fz b)).bind fun xs=>(aD6 (aS1 G σ (n + 1)) xs).map Tr.l).bind (fun x=>(aD6 (aS1 G σ (n + 2)) (r.map .fz)).map (x::·))=_);(refine rwg (h 0 b d rfl rfl ..) ?_;refine rwg (ih D (Nat.succ.inj hl) fun i b xs hb hx=>h (i + 1) b xs hb hx ..) ?_)
    refine (?_:((aD6 (aS1 G σ (n + 1)) (d.map .bool)).map Tr.l).bind _=_);refine rwg (eb ..) ?_;rfl
 refine rwg (e bs D hl h2 ..) ?_;rfl
theorem eq_ne (b:Str):(ofString "="++b != ofString "")=true:=by
 rw [bne_iff_ne];intro e;have:=congrArg Str.length e;rw [Str.length_append,show (ofString "=").length=1 by decide +kernel,show (ofString "").length=0 by decide +kernel] at this;omega
theorem bJ3 {W:List Wd1} {j:Nat} {t:Str} (h:(aG0 W)[j + 1]?=some t):((aG0 W).take (j + 1 + 1)).map AV.str=((aG0 W).take (j + 1)).map AV.str++[.str t]:=by
 (refine aH5 h ?_;intro h1 h2)
 (refine rwg (take_succ_eq_append_getElem h1 ..) ?_;refine rwg (h2 ..) ?_;refine rwg (map_append ..) ?_);rfl
theorem aK2 (l:List Str) (t:Str):(l.map AV.str++[AV.str t]).all aV2=true:=by (refine rwg (List.all_append ..) ?_;refine rwg (cF ..) ?_);rfl
theorem cB0 {W:List Wd1} {j:Nat} {t:Str} (h:(aG0 W)[j]?=some t):(((aG0 W).take (j + 1)).map AV.str)[(if (-1:Int) < 0 then -1 + ((((aG0 W).take (j + 1)).map AV.str).length:Int) else -1).toNat]?=some (.str t):=by
 (refine aH5 h ?_;intro hj e)
 have hl:(((aG0 W).take (j + 1)).map AV.str).length=j + 1:=by (refine rwg (length_map ..) ?_;refine rwg (length_take ..) ?_);(clear h e;lia)
 (refine rwg (if_pos (by decide) ..) ?_;refine rwg (hl ..) ?_;refine rwg (show ((-1:Int) + ((j + 1:Nat):Int)).toNat=j by (clear h hj e hl;lia)) ?_;refine rwg (getElem?_map ..) ?_;refine rwg (List.getElem?_take ..) ?_;refine rwg (if_pos (lt_succ_self j) ..) ?_;refine rwg (h ..) ?_);rfl
theorem cY2 {W:List Wd1} {j:Nat} {t:Str} (h:(aG0 W)[j]?=some t) (hW:W.length≤12):-(((((aG0 W).take (j + 1)).map AV.str).length:Nat):Int)≤-1∧(-1:Int) < (((((aG0 W).take (j + 1)).map AV.str).length:Nat):Int)∧(((aG0 W).take (j + 1)).map AV.str).length≤16777216:=by
 (refine aH5 h ?_;intro hj e)
 have hl:(((aG0 W).take (j + 1)).map AV.str).length=j + 1:=by (refine rwg (length_map ..) ?_;refine rwg (length_take ..) ?_);omega
 have:(aG0 W).length=W.length + 1:=by (refine rwg (List.length_append ..) ?_;refine rwg (length_map ..) ?_);rfl
 refine rwg (hl ..) ?_;omega
inductive DueIs (wd:Wd) (k:Nat):AV→List Addr→Prop
 | obj:DueIs wd k (.obj k) []
 | fz {a bs} (hne:bs≠[]) (h:wd.fz a=some (.list (bs.map .fz))):DueIs wd k (.fz a) bs
theorem DueIs.ne {wd:Wd} {k:Nat} {d:AV} {bs:List Addr} (h:DueIs wd k d bs) (hne:bs≠[]):∃ a,d=.fz a∧wd.fz a=some (.list (bs.map .fz)):=by
 cases h with
 | obj=>exact absurd rfl hne
 | fz _ h=>exact (aA0 (_) (rfl) (h))
theorem cI5 {P:Params} {n:Nat} {base:List AO} {d f:AV} {k:Nat} {bs:List Addr} {fs:List Bool} {w:Str} {σ:St} {K:AV→St→Prop} (hd:DueIs σ.wd k d bs) (hk:σ.obj[k]?=some (.list [])) (hw1:(w==ofString "not")=false) (hw2:[ofString "and",ofString "or"].any (·==w)=false) (hn:bs.length≤50)
  (hf:aY9 (gB base (aF8 P).tab (aF8 P).W) σ f=some (.list (fs.map .bool))) (hK:K (.obj σ.obj.length) ⟨σ.loc,σ.obj++[.list (bs.map .fz++[f])],σ.wd⟩) :
  aG6 (aF4 (aF8 P) (n + 1) base (.ref 197) [d,.str w,f] σ K):=by
 cases hd with
 | obj=>exact bW9 hw1 hw2 hk hf hK
 | fz _ h=>exact cF0 hw1 hw2 h hn hf hK
theorem cM4 {P:Params} {n:Nat} {base:List AO} {d f:AV} {k:Nat} {bs:List Addr} {fs fd:List Bool} {xss:List (List Bool)} {x:Int} {w:Str} {σ:St} {K:AV→St→Prop} (hd:DueIs σ.wd k d bs) (hF:FzAll σ.wd.fz bs xss) (h4:∀ y∈xss,y.length=4) (hl:bs.length≤12) (hw:aD3 xss.length x=w) (hne:(w==ofString "=")=false)
  (hf:aY9 (gB base (aF8 P).tab (aF8 P).W) σ f=some (.list (fs.map .bool)))
  (hK:∀ bs0 ys xs0,aO6 xss w fd=xs0++[ys]→FzAll σ.wd.fz bs0 xs0→K (.obj (σ.obj.length + 1)) ⟨σ.loc,σ.obj++[.list (ys.map .bool),.list (bs0.map .fz++[.obj σ.obj.length])],σ.wd⟩) :
  aG6 (aF4 (aF8 P) (n + 1) base (.ref 197) [d,.str w,f] σ K):=by
 rcases aV6 (n:=xss.length) (x:=x) with ⟨h,h0⟩ | ⟨g,h,h2⟩ | h
 ·rw [hw] at h;have hx:xss≠[]:=fun e=>h0 (by refine rwg (e ..) ?_;rfl);refine hide fun G_ k_=>?_;(refine aR8 (hF.last hx) ?_;intro bs0 b xs0 y eo0 eo1 hb hz;subst eo0;subst eo1)
  (refine aA3 (hd.ne (fun e=>by simp at e)) ?_;intro a eo0 ha;subst eo0)
  refine k_ ?_;rw [List.length_append] at hl;have hy:=h4 y (mem_append_right _ (.head _));rw [h] at hK ⊢;exact cP9 ha hb (by (clear hne hf h hb hw h0 hx ha k_ hy;lia)) (by (clear hne hf h hb hl hw h0 hx ha k_;lia)) hf (hK bs0 _ xs0 cJ2 hz)
 ·rw [hw] at h;have hx:xss≠[]:=fun e=>by rw [e] at h2;exact absurd h2 (by decide)
  refine hide fun G_ k_=>?_;(refine aR8 (hF.last hx) ?_;intro bs1 c xs1 z eo0 eo1 hc hz1;subst eo0;subst eo1)
  refine k_ ?_;have hx1:xs1≠[]:=fun e=>by rw [e] at h2;exact absurd h2 (show ¬ 2≤1 by decide)
  refine hide fun G_ k_=>?_;(refine aR8 (hz1.last hx1) ?_;intro bs0 b xs0 y eo0 eo1 hb hz;clear hz1 hF;subst eo0;subst eo1)
  have h41:=h4 y (mem_append_left _ (mem_append_right _ (.head _)));have h42:=h4 z (mem_append_right _ (.head _));(refine aP1 (bM8 h41) ?_;intro p1 p2 p3 p4 eo0;subst eo0)
  (refine aP1 (bM8 h42) ?_;intro q1 q2 q3 q4 eo0;subst eo0)
  (refine aA3 (hd.ne (fun e=>by simp at e)) ?_;intro a eo0 ha;subst eo0)
  refine k_ ?_;rw [append_assoc] at ha hl hK;rw [List.length_append] at hl;exact cK1 h ha hb hc (by (clear hne hf h hb hx1 h41 hc h42 hw h2 hx ha k_;lia)) hf (hK bs0 _ xs0 (bZ8 h) hz)
 ·rw [hw] at h;rw [h] at hne;exact absurd hne (by decide +kernel)
section
variable {P:Params} {n:Nat} {base:List AO} {l:List (Str × AV)} {o:List AO} {wd:Wd} {K:AV→St→Prop} {d f:AV} {k:Nat} {bs:List Addr} {fs:List Bool} {w:Str}
theorem bL3 {x:Int} (m:Nat) (hm:o.length=m) (hK:K (.obj (m + 12)) ⟨l,o++(itemsTable.map aO8++[.list ((aC1 x).map fun k=>.obj (m + k))]),wd⟩):aG6 (aF4 (aF8 P) (n + 1) base (.ref 156) [.int x] ⟨l,o,wd⟩ K):=by
 subst hm;exact bX0 hK
theorem bB5 (m:Nat) (hm:o.length=m) (hd:DueIs wd k d bs) (hk:o[k]?=some (.list [])) (hw1:(w==ofString "not")=false) (hw2:[ofString "and",ofString "or"].any (·==w)=false) (hn:bs.length≤50)
  (hf:aY9 (gB base (aF8 P).tab (aF8 P).W) ⟨l,o,wd⟩ f=some (.list (fs.map .bool))) (hK:K (.obj m) ⟨l,o++[.list (bs.map .fz++[f])],wd⟩) :
  aG6 (aF4 (aF8 P) (n + 1) base (.ref 197) [d,.str w,f] ⟨l,o,wd⟩ K):=by
 subst hm;exact cI5 hd hk hw1 hw2 hn hf hK
theorem aY1 {fd:List Bool} {xss:List (List Bool)} {x:Int} (m:Nat) (hm:o.length=m) (hd:DueIs wd k d bs) (hF:FzAll wd.fz bs xss) (h4:∀ y∈xss,y.length=4) (hl:bs.length≤12) (hw:aD3 xss.length x=w) (hne:(w==ofString "=")=false)
  (hf:aY9 (gB base (aF8 P).tab (aF8 P).W) ⟨l,o,wd⟩ f=some (.list (fs.map .bool)))
  (hK:∀ bs0 ys xs0,aO6 xss w fd=xs0++[ys]→FzAll wd.fz bs0 xs0→K (.obj (m + 1)) ⟨l,o++[.list (ys.map .bool),.list (bs0.map .fz++[.obj m])],wd⟩) :
  aG6 (aF4 (aF8 P) (n + 1) base (.ref 197) [d,.str w,f] ⟨l,o,wd⟩ K):=by
 subst hm;exact cM4 hd hF h4 hl hw hne hf hK
end
theorem DueIs.or {wd:Wd} {k:Nat} {d:AV} {bs:List Addr} (h:DueIs wd k d bs):(d=.obj k∧bs=[])∨∃ a,d=.fz a∧bs≠[]∧wd.fz a=some (.list (bs.map .fz)):=by
 cases h with
 | obj=>exact .inl ⟨rfl,rfl⟩
 | fz h1 h=>exact .inr (aM1 (_) (rfl) (h1) (h))
theorem two_ne {w:Str} (h:(([ofString "and",ofString "or"].any fun y=>y==w)==true)=true):(w==ofString "=")=false:=by
 (refine aJ9 (two_g h) ?_;intro g h)
 rcases h with ⟨h,_⟩ | ⟨h,_⟩<;>refine rwg (h ..) ?_<;>decide +kernel
theorem cK4 {n:Nat} {x:Int} (hw:aI5 x=ofString "="):aD3 n x=ofString "=":=by
 unfold aD3;rw [hw,show (ofString "="==ofString "not")=false by decide +kernel,show aS9 (ofString "=")=false by decide +kernel,Bool.false_and,Bool.false_and,Bool.or_false,if_neg Bool.false_ne_true]
noncomputable def laT (ns:List Int) (c:Option AV) (o:List AO):List AO:=.cell c::.list ((ns.take 4).map .int)::.list ((aC6 ns).map .int)::.list []::.tup [.obj 3,.str (ofString ""),.obj 4]::.list ((aC6 ns).map fun b=>.str (aE6 b))::.list ((aC6 ns).map fun b=>.str (Txt.join (ofString "") (fmL b)))::.tup [.obj 6,.obj 7]::.list ((ns.take 4).map .int)::.list (constX.map .int)::.list ((ns.take 4).map .int++constX.map .int)::o
noncomputable def laO (ns:List Int) (c:Option AV) (o:List AO):List AO:=.cell none::laT ns c o
noncomputable def laS (ns:List Int) (d:AV) (t:Str) (wd:Wd):St:=⟨[(ofString "script",.par 0),(ofString "due",d),(ofString "text",.str t),(ofString "modes",.obj 3),(ofString "listing",.obj 7),(ofString "rows",.obj 6)],laO ns none [],wd⟩
inductive LaI (ns:List Int) (i:Nat):St→Prop
 | mk {d bs wd t} (hv:wd.v=[]) (hd:DueIs wd 4 d bs) (hb:FzAll wd.fz bs (aC0 (aF2 ns) ((xsF ns).take i)).1) (ht:t=aB2 (aC0 (aF2 ns) ((xsF ns).take i)).2):LaI ns i (laS ns d t wd)
noncomputable def bS7 (ns:List Int) (x:Int):List Bool:=(aC6 ns).map fun b=>aI7 (aE6 b) (aE1 x)
theorem cA6 (ns:List Int) (x:Int):(aF2 ns).map (fun sg=>aI7 sg (aE1 x))=bS7 ns x:=by
 rw [aF2,List.map_map];rfl
theorem it_dl {m:Nat} (x:Int):((aC1 (x.fdiv 5)).map fun k=>AV.obj (m + k)).length≤sizeLine:=by
 have:=aG7 (x.fdiv 5);(refine rwg (length_map ..) ?_;refine rwg (sizeLine_eq ..) ?_);omega
theorem cD9 (x:Int):(aB1 ((aC1 (x.fdiv 5)).map aA7)).length≤24:=le_trans (bF4 (aI4 (x.fdiv 5))) (Nat.mul_le_mul_left 6 (aG7 (x.fdiv 5)))
theorem it_jl (x:Int):(((aC1 (x.fdiv 5)).map aA7).map fun x=>x.length).sum + ((aC1 (x.fdiv 5)).map aA7).length * (ofString "").length≤16777216:=by
 have:=cD9 x;(refine rwb (aH4 ..) ?_;refine rwg (show (ofString "").length=0 by decide +kernel) ?_);omega
theorem it_wl (x:Int):(ofString "=").length + (Txt.join (ofString "") ((aC1 (x.fdiv 5)).map aA7)).length≤25:=by
 have:=cD9 x;(refine rwg (aL0 ..) ?_;refine rwg (show (ofString "=").length=1 by decide +kernel) ?_);omega
theorem cS (x:Int):(ofString "="++Txt.join (ofString "") ((aC1 (x.fdiv 5)).map aA7)).length≤90:=by
 refine rwg (Str.length_append ..) ?_;exact le_trans (it_wl x) (by decide)
theorem cI1 {ns:List Int} {i:Nat} {t w:Str} {x:Int} (ht:t=aB2 (aC0 (aF2 ns) ((xsF ns).take i)).2) (hw:w.length≤90):t.length + (aD4 w x).length≤sizeLine:=by
 have h1:=aO9 (aF2 ns) ((xsF ns).take i);have h2:=aW2 w x;have h3:=cH6 ns i;(refine rwg (ht ..) ?_;refine rwg (sizeLine_eq ..) ?_);(clear ht;lia)
theorem bH5 {ns:List Int} {i:Nat} {wd:Wd} {bs:List Addr} (hb:FzAll wd.fz bs (aC0 (aF2 ns) ((xsF ns).take i)).1):bs.length≤12:=by
 refine rwg (hb.1 ..) ?_;exact le_trans (aV8 _ _).2.2 (cH6 ns i)
theorem cW6 (ns:List Int) (i:Nat):∀ y∈(aC0 (aF2 ns) ((xsF ns).take i)).1,y.length=4:=fun y hy=>((aV8 _ _).1 y hy).trans (by rw [aF2,length_map];rfl)
theorem aV (x:Int):(aI5 x).length≤90:=(by decide +kernel:∀ w∈wordsT,w.length≤90) _ (aJ1 x)
noncomputable def laK:List Str:=[ofString "script",ofString "due",ofString "text",ofString "modes",ofString "listing",ofString "rows"]
set_option tactic.hygienic true in
theorem LaI.next {ns:List Int} {i:Nat} {x:Int} {wd:Wd} {w t:Str} {a1 a2:Addr} {bs0:List Addr} {ys:List Bool} {xs0:List (List Bool)} (hx:(xsF ns).take (i + 1)=(xsF ns).take i++[x]) (hv:wd.v=[]) (hw:aD3 (aC0 (aF2 ns) ((xsF ns).take i)).1.length x=w)
  (hF:aO6 (aC0 (aF2 ns) ((xsF ns).take i)).1 w (bS7 ns x)=xs0++[ys]) (hb:FzAll wd.fz bs0 xs0) (h1:wd.fz a1=none) (h2:(wd.add a1 (.list (ys.map .bool))).fz a2=none)
  (ht:t=aB2 (aC0 (aF2 ns) ((xsF ns).take i)).2++aD4 (Wd1.text ⟨w,aC1 (x.fdiv 5),x⟩) x):LaI ns (i + 1) (laS ns (.fz a2) t ((wd.add a1 (.list (ys.map .bool))).add a2 (.list (bs0.map .fz++[.fz a1])))):=by
 refine .mk (bs:=bs0++[a1]) hv (.fz (fun e=>by simp at e) (Wd.add_new.trans (by refine rwg (map_append ..) ?_;rfl))) ?_ ?_
 ·(refine rwg (hx ..) ?_;refine rwg (bD9 hw ..) ?_;refine rwg (cA6 ..) ?_;refine rwg (hF ..) ?_)
  exact ((hb.mono fun b bo h=>Wd.add_old h2 (Wd.add_old h1 h)).snoc (Wd.add_old h2 Wd.add_new))
 ·(refine rwg (hx ..) ?_;refine rwg (bD9 hw ..) ?_;refine rwg (ht ..) ?_;refine rwg (bI9 ..) ?_;rfl)
theorem cA2 {ns:List Int} {p m:Nat} {a:Addr} {sel:List Nat} {c:Option AV} {rest rest':List AO} (hc:c.bind (fun v=>bD6 (p + 12) sel (aM3 (m + 12) a v))=none) (h:RenOs (p + 12) sel rest rest') :
  RenOs (p + 12) sel (cR4 (m + 12) a (.cell c)::.list (((ns.take 4).map AV.int).map (aM3 (m + 12) a))::.list (((aC6 ns).map AV.int).map (aM3 (m + 12) a))::.list []::.tup [.obj 3,.str (ofString ""),.obj 4]::.list (((aC6 ns).map fun b=>AV.str (aE6 b)).map (aM3 (m + 12) a))::.list (((aC6 ns).map fun b=>AV.str (Txt.join (ofString "") (fmL b))).map (aM3 (m + 12) a))::.tup [.obj 6,.obj 7]::.list (((ns.take 4).map AV.int).map (aM3 (m + 12) a))::.list ((constX.map AV.int).map (aM3 (m + 12) a))::.list (((ns.take 4).map AV.int++constX.map AV.int).map (aM3 (m + 12) a))::rest) (laT ns none rest'):=by
 have hc2:bK6 (p + 12) sel (cR4 (m + 12) a (.cell c))=some (.cell none):=by
  cases c with
  | none=>rfl
  | some v=>exact congrArg (fun z=>some (AO.cell z)) hc
 exact .cons hc2 (.cons (aD (aB6 _)) (.cons (aD (aB6 _)) (.cons rfl (.cons rfl (.cons (aD (bH8 _ _)) (.cons (aD (bH8 _ _)) (.cons rfl (.cons (aD (aB6 _)) (.cons (aD (aB6 _)) (.cons (aD (cU7 _ _)) h))))))))))
theorem bC1 {ns:List Int} {m:Nat} {a:Addr} {sel:List Nat} {c:Option AV} {rest rest':List AO} (hc:c.bind (fun v=>bD6 12 sel (aM3 (m + 12) a v))=none) (h:RenOs 12 sel rest rest') :
  RenOs 12 sel (.cell none::cR4 (m + 12) a (.cell c)::.list (((ns.take 4).map AV.int).map (aM3 (m + 12) a))::.list (((aC6 ns).map AV.int).map (aM3 (m + 12) a))::.list []::.tup [.obj 3,.str (ofString ""),.obj 4]::.list (((aC6 ns).map fun b=>AV.str (aE6 b)).map (aM3 (m + 12) a))::.list (((aC6 ns).map fun b=>AV.str (Txt.join (ofString "") (fmL b))).map (aM3 (m + 12) a))::.tup [.obj 6,.obj 7]::.list (((ns.take 4).map AV.int).map (aM3 (m + 12) a))::.list ((constX.map AV.int).map (aM3 (m + 12) a))::.list (((ns.take 4).map AV.int++constX.map AV.int).map (aM3 (m + 12) a))::rest) (laO ns none rest') :=
 .cons rfl (cA2 (p:=0) hc h)
inductive WordsIs (wd:Wd) (t0:Str) (l:List AV):AV→Prop
 | obj (h:l=[.str t0]):WordsIs wd t0 l (.obj 14)
 | fz {aw} (h:wd.fz aw=some (.list l)):WordsIs wd t0 l (.fz aw)
noncomputable def lwO (ns:List Int) (la:Addr) (t0:Str) (wv:AV) (o:List AO):List AO:=.cell (some wv)::laT ns none (.list []::.tup [.val (.ref la),.obj 12]::.list [.str t0]::o)
theorem WordsIs.list {wd:Wd} {t0:Str} {l:List AV} {wv:AV} (h:WordsIs wd t0 l wv) (ns:List Int) (la:Addr) (G:Gx) (lc:List (Str × AV)) (o:List AO) (v:List Value):aB G ⟨lc,lwO ns la t0 wv o,⟨v,wd.fz⟩⟩ wv=some l:=by
 cases h with
 | obj h=>refine rwg (h ..) ?_;rfl
 | fz h=>refine (?_:(wd.fz _).bind AO.list?=_);refine rwg (h ..) ?_;rfl
theorem WordsIs.no {wd:Wd} {t0:Str} {l:List AV} {wv:AV} (h:WordsIs wd t0 l wv):wv.str?=none∧wv.int?=none:=by
 cases h<;>exact ⟨rfl,rfl⟩
noncomputable def lwS (ns:List Int) (a la:Addr) (t0 t:Str) (d wv:AV) (wd:Wd):St:=⟨[(ofString "script",.par 0),(ofString "due",.fz a),(ofString "text",.str t),(ofString "modes",.obj 3),(ofString "listing",.obj 7),(ofString "rows",.obj 6),(ofString "answers",d),(ofString "lexer",.val (.ref la))],lwO ns la t0 wv [],wd⟩
inductive LwI (ns:List Int) (a la:Addr) (t0 t:Str) (W:List Wd1) (fz:Addr→Option AO) (κ:Nat):St→Prop
 | mk {j d bs wv wd} (hj:j≤W.length) (hκ:κ=W.length - j) (hv:wd.v=bH la (bH3 W (j + 1))) (hf:∀ b ao,fz b=some ao→wd.fz b=some ao) (hd:DueIs wd 12 d bs) (hb:FzAll wd.fz bs (aC0 (aF2 ns) ((xsF ns).take j)).1) (hw:WordsIs wd t0 (((aG0 W).take (j + 1)).map .str) wv):LwI ns a la t0 t W fz κ (lwS ns a la t0 t d wv wd)
set_option tactic.hygienic true in
theorem LwI.next {ns:List Int} {a la:Addr} {t0 t w:Str} {W:List Wd1} {fz:Addr→Option AO} {j:Nat} {wd:Wd} {x:Int} {a1 a2 aw:Addr} {bs0:List Addr} {ys:List Bool} {xs0:List (List Bool)} {l:List AV} (hj:j < W.length) (hv:wd.v=bH la (bH3 W (j + 1 + 1))) (hf:∀ b ao,fz b=some ao→wd.fz b=some ao)
  (hx:(xsF ns).take (j + 1)=(xsF ns).take j++[x]) (hw:aD3 (aC0 (aF2 ns) ((xsF ns).take j)).1.length x=w) (hF:aO6 (aC0 (aF2 ns) ((xsF ns).take j)).1 w (bS7 ns x)=xs0++[ys]) (hb:FzAll wd.fz bs0 xs0)
  (h1:wd.fz a1=none) (h2:(wd.add a1 (.list (ys.map .bool))).fz a2=none) (h3:((wd.add a1 (.list (ys.map .bool))).add a2 (.list (bs0.map .fz++[.fz a1]))).fz aw=none) (hl:((aG0 W).take (j + 1 + 1)).map .str=l) :
  ∃ i,i < W.length - j∧LwI ns a la t0 t W fz i (lwS ns a la t0 t (.fz a2) (.fz aw) (((wd.add a1 (.list (ys.map .bool))).add a2 (.list (bs0.map .fz++[.fz a1]))).add aw (.list l))):=by
 refine (aA0 (W.length - (j + 1)) (Nat.sub_succ_lt_self _ _ hj) (.mk (j:=j + 1) (bs:=bs0++[a1]) hj rfl hv (fun b bo h=>Wd.add_old h3 (Wd.add_old h2 (Wd.add_old h1 (hf b bo h)))) (.fz (fun e=>by simp at e) (Wd.add_old h3 (Wd.add_new.trans (by refine rwg (map_append ..) ?_;rfl)))) ?_ (.fz (by refine rwg (hl ..) ?_;exact Wd.add_new))));(refine rwg (hx ..) ?_;refine rwg (bD9 hw ..) ?_;refine rwg (cA6 ..) ?_;refine rwg (hF ..) ?_)
 exact (hb.mono fun b bo h=>Wd.add_old h3 (Wd.add_old h2 (Wd.add_old h1 h))).snoc (Wd.add_old h3 (Wd.add_old h2 Wd.add_new))
theorem bA3 {ns:List Int} {la:Addr} {t0:Str} {m:Nat} {a:Addr} {sel:List Nat} {wv wv':AV} {rest rest':List AO} (hw:(bD6 15 sel (aM3 (m + 15) a wv))=some wv') (h:RenOs 15 sel rest rest') :
  RenOs 15 sel (.cell (some (aM3 (m + 15) a wv))::.cell none::.list (((ns.take 4).map AV.int).map (aM3 (m + 15) a))::.list (((aC6 ns).map AV.int).map (aM3 (m + 15) a))::.list []::.tup [.obj 3,.str (ofString ""),.obj 4]::.list (((aC6 ns).map fun b=>AV.str (aE6 b)).map (aM3 (m + 15) a))::.list (((aC6 ns).map fun b=>AV.str (Txt.join (ofString "") (fmL b))).map (aM3 (m + 15) a))::.tup [.obj 6,.obj 7]::.list (((ns.take 4).map AV.int).map (aM3 (m + 15) a))::.list ((constX.map AV.int).map (aM3 (m + 15) a))::.list (((ns.take 4).map AV.int++constX.map AV.int).map (aM3 (m + 15) a))::.list []::.tup [.val (.ref la),.obj 12]::.list [.str t0]::rest) (lwO ns la t0 wv' rest'):=by
 have h1:RenOs (3 + 12) sel (.list []::.tup [.val (.ref la),.obj 12]::.list [.str t0]::rest) (.list []::.tup [.val (.ref la),.obj 12]::.list [.str t0]::rest'):=.cons rfl (.cons rfl (.cons rfl h));exact .cons (show some (AO.cell (bD6 15 sel (aM3 (m + 15) a wv)))=_ by (refine rwg (hw ..) ?_;rfl)) (cA2 (p:=3) (m:=m + 3) (c:=none) rfl h1)
theorem xs_12 (ns:List Int):(xsF ns).length≤12:=by
 rw [xsF,List.length_append,length_take];refine (?_:min 4 ns.length + 8≤12);lia
theorem xs_ne (ns:List Int):xsF ns≠[]:=fun e=>by
 have:=congrArg List.length e;rw [xsF,List.length_append] at this;exact Nat.succ_ne_zero _ this
theorem dB4 (i:Nat) (c:AV) (h:[AV.str (ofString "\"a b"),.str (ofString "a\\"),.str (ofString "\"a\\"),.str (ofString "")][i]?=some c):∃ s tk ys,c=.str s∧s.length≤1000∧aA9 (signs s)=(tk,ys)∧endsT.take (i + 1)=endsT.take i++[tk]:=by
 have e:∀ s tk,(s.length≤1000∧(aA9 (signs s)).1=tk)→aA9 (signs s)=(tk,(aA9 (signs s)).2):=fun s tk h=>by (refine rwb (h.2 ..) ?_;rfl)
 rcases i with _ | _ | _ | _ | i
 ·obtain rfl:=Option.some.inj h;exact ⟨_,ofString "a b",_,rfl,by decide +kernel,e _ _ (by decide +kernel),rfl⟩
 ·obtain rfl:=Option.some.inj h;exact ⟨_,ofString "a",_,rfl,by decide +kernel,e _ _ (by decide +kernel),rfl⟩
 ·obtain rfl:=Option.some.inj h;exact ⟨_,ofString "a",_,rfl,by decide +kernel,e _ _ (by decide +kernel),rfl⟩
 ·obtain rfl:=Option.some.inj h;exact ⟨_,ofString "",_,rfl,by decide +kernel,e _ _ (by decide +kernel),rfl⟩
 ·exact absurd (List.getElem?_eq_some_iff.mp h).1 (Nat.not_lt.mpr (Nat.le_add_left 4 _))
theorem cH0 {n:Nat} {x:Int} {w:Str} (hw:aD3 n x=w) (hne:(w==ofString "=")=false):(Txt.slice w none (some 1)==ofString "=")=false∧(w != ofString "")=true∧w.length≤sizeLine:=by
 refine rwg (sizeLine_eq ..) ?_;rcases aV6 (n:=n) (x:=x) with ⟨h,_⟩ | ⟨g,⟨h,_⟩ | ⟨h,_⟩,_⟩ | h
 ·(refine rwb (hw ..) ?_;refine rwg (h ..) ?_);decide +kernel
 ·(refine rwb (hw ..) ?_;refine rwg (h ..) ?_);decide +kernel
 ·(refine rwb (hw ..) ?_;refine rwg (h ..) ?_);decide +kernel
 ·rw [← hw,h] at hne;exact absurd hne (by decide +kernel)
theorem cV8 (x:Int):(Txt.slice (ofString "="++aB1 ((aC1 (x.fdiv 5)).map aA7)) none (some 1)==ofString "=")=true∧(ofString "="++aB1 ((aC1 (x.fdiv 5)).map aA7) != ofString "")=true∧(ofString "="++aB1 ((aC1 (x.fdiv 5)).map aA7)).length≤sizeLine:=by
 have:=cD9 x;refine rwg (sizeLine_eq ..) ?_;refine ⟨by refine rwg (cE7 ..) ?_;decide +kernel,eq_ne _,?_⟩;(refine rwg (Str.length_append ..) ?_;refine rwg (show (ofString "=").length=1 by decide +kernel) ?_);omega
theorem cW4 {W:List Wd1} {j:Nat} {t:Str} (h:W.length≤12) (hj:j≤W.length):(((aG0 W).take (j + 1)).map AV.str).length + [AV.str t].length≤sizeLine:=by
 (refine rwg (length_map ..) ?_;refine rwg (length_take ..) ?_;refine rwg (sizeLine_eq ..) ?_)
 refine (?_:min (j + 1) _ + 1≤_);lia
theorem bR2 {ns:List Int} {W:List Wd1} {j:Nat} {x:Int} {t w:Str} (hW:W[j]?=some ⟨aD3 (aC0 (aF2 ns) ((xsF ns).take j)).1.length x,aC1 (x.fdiv 5),x⟩) (ht:(aG0 W)[j]?=some t) (hw:aD3 (aC0 (aF2 ns) ((xsF ns).take j)).1.length x=w):t=Wd1.text ⟨w,aC1 (x.fdiv 5),x⟩:=by
 rw [hw] at hW;rw [aG0,getElem?_append_left (by refine rwg (length_map ..) ?_;exact (List.getElem?_eq_some_iff.mp hW).1),getElem?_map,hW] at ht;exact (Option.some.inj ht).symm
noncomputable def lwK:List Str:=laK++[ofString "answers",ofString "lexer"]
section
open PySem.W.X PySem.Builtin PySem.Builtin.SmallTypes
theorem slot_ci_next:Slot "callable_iterator" "__next__" "callable_iterator.__next__":=.of (owner:="callable_iterator") (n:="__next__") (by (refine rwg (typeLookup_type ..) ?_;refine rwg (builtinLookup_eq_fast ..) ?_);kernel_rfl) (by decide +kernel) (by decide +kernel) (by decide +kernel)
  (by first | exact .inl (by decide +kernel) | exact .inr (by decide +kernel)) (by refine rwg (isSubtype_type ..) ?_;kernel_rfl)
theorem aN2 (a:Value):argsOk "callable_iterator.__next__" ⟨[a],[]⟩:=by kernel_rfl
theorem aL5:entryFor table "callable_iterator.__next__"=some Builtin.«callable_iterator.__next__»:=entryFor_of_tree (by kernel_rfl)
structure InA (d u:Nat) (A:Around):Prop where
 h:A.handled=none
 d:A.depth≤d
 u:A.units≤u
 fr:∃ outer,A.frames=some outer
theorem InA.run {d u:Nat} {A:Around} (a:InA d u A) {c:Code} {M:Model} {R:Result→Shared→Prop} {s:Shared} (h:∀ outer,codeAny M (cA d u outer) c R s):codeAny M A c R s :=
 let ⟨o,e⟩:=a.fr
 bF1 (h o) a.h a.d e a.u
theorem InA.run1 {d u:Nat} {A:Around} (a:InA d u A) {c:Code} {M:Model} {R:Result→Shared→Prop} {s:Shared} (h:∀ outer,codeAny M (cA d (u + 1) outer) c R s):codeAny M (A.in1.mark none) c R s :=
 InA.run (A:=A.in1.mark none) ⟨a.h,a.d,Nat.succ_le_succ a.u,a.fr⟩ h
noncomputable abbrev aO7 (q:Addr) (t:Tok):Obj:={cls:=.type "callable_iterator",data:=.fields #[.ref q,.str (ofString "") t,.bool false]}
noncomputable abbrev aW8:Obj:={cls:=.type "callable_iterator",data:=.fields #[.none,.none,.bool true]}
theorem dD0 {P:Params} {h:Heap} (X:(Mine.hd.heap_39 P).In h):∃ o fd,h.get? 130=some o∧o.data=.func fd:=by
 have e:=X 130 _ (by with_unfolding_all rfl);exact ⟨_,_,e,rfl⟩
theorem aM8 {M:Model} {A:Around} {E:Value→Shared→Prop} {s:Shared} {q f:Addr} {self:Value} {o:Obj} {fd:FuncData} {Q:Bool→Shared→Prop} (hq:s.heap.get? q=some (methodObj (.ref f) self)) (hf:s.heap.get? f=some o) (hfd:o.data=.func fd) (h:Q true s) :
 wpAny M A (borrowsExactly (.ref q)) Q E s:=by
 refine wpAny_bind (wpAny_load hq ?_);refine rwg (if_pos (by rfl) ..) ?_;refine (?_:wpAny _ _ (load f >>= _) _ _ _);refine wpAny_bind (wpAny_load hf ?_);refine rwg (hfd ..) ?_;exact wpAny_pure h
theorem cZ8 {prog:Program} {w:World} {p:Program} {loose:List Str} {mean:ExcName→Option Value} {mg mb:Str→Option Value} {A:Around} {s:Shared} {E:Value→Shared→Prop} {Q:Option Value→Shared→Prop}
 {Hb:Heap} {D:LexD} {ln:Int} {vs:List Value} {n:Nat} {x:Str} {xs:List Str} {I q:Addr} {t:Tok}
 (hA:InA 390 659 A) (X:(Mine.hd.heap_39 w.params).In Hb) (T:Top p loose mean mg mb Hb) (hk:∀ b o,Hb.get? b=some o→s.heap.get? b=some o) (hn:∀ a∈[D.S,D.dx,D.Xa,D.pb,D.f0,D.d,D.f1,D.c1,D.cc],Hb.get? a=none)
 (O:D.Ok) (hL:LexAt w.params D s.heap ln vs n (x::xs)) (hx:(ofString ""==x)=false) (hI:s.heap.get? I=some (aO7 q t)) (hq:s.heap.get? q=some (methodObj (.ref 130) (.ref D.Xa))) (hIn:I≠D.dx∧I≠D.S)
 (hQ:∀ h' tk' ln' vs' n' t',(∀ b o,b≠D.dx→b≠D.S→s.heap.get? b=some o→h'.get? b=some o)→LexAt w.params D h' ln' vs' n' xs→Q (some (.str x t')) {s with heap:=h',toks:=tk'}) :
 wpAny (model prog w) A (pyNext (.ref I)) Q E s:=by
 have hT:s.TypeIs (.ref I) "callable_iterator":=(aA0 (_) (hI) (rfl));(refine aG9 (dD0 (X.keeps hk)) ?_;intro o130 fd130 h130 hfd)
 refine wpAny_bind (wpAny_attempt (wpAny_callSpecial?_slot (name:=ofString "__next__") hT slot_ci_next (wpAny_call_entry slot_ci_next hT aL5 ?_ (aN2 _))));refine (?_:wpAny _ _ (field (.ref I) 2 >>= _) _ _ _);refine wpAny_bind (wpAny_field hI rfl (x:=.bool false) rfl ?_);refine (?_:wpAny _ _ (field (.ref I) 0 >>= _) _ _ _);refine wpAny_bind (wpAny_field hI rfl (x:=.ref q) rfl ?_);refine wpAny_bind (wpAny_attempt ?_);refine wpAny_bind (aM8 hq h130 hfd ?_);refine rwg (if_pos rfl ..) ?_;refine x_call ?_ (fun z=>by cases z);refine method_call hq (hA.run1 (fun u_=>cF7 X T hk hn O hL ?_));intro h2 tk2 ln2 vs2 n2 t2 hk2 hL2;have hI2:h2.get? I=some (aO7 q t):=hk2 _ _ hIn.1 hIn.2 hI;refine (?_:wpAny _ _ (pure _) _ _ _);refine wpAny_pure ?_;refine (?_:wpAny _ _ (field (.ref I) 2 >>= _) _ _ _);refine wpAny_bind (wpAny_field hI2 rfl (x:=.bool false) rfl ?_);refine (?_:wpAny _ _ (field (.ref I) 1 >>= _) _ _ _);refine wpAny_bind (wpAny_field hI2 rfl (x:=.str (ofString "") t) rfl ?_);refine wpAny_bind (wpAny_holding (eqBool_str ?_));(refine rwg (show (List.headD (x::xs) (ofString ""))=x from rfl) ?_;refine rwg (hx ..) ?_)
 refine (?_:wpAny _ _ (ret (.str x t2)) _ _ _);exact wpAny_pure (aA0 (_) (rfl) (wpAny_pure (hQ _ _ _ _ _ _ hk2 hL2)))
theorem bA6 {α:Type} {M:Model} {A:Around} {E:Value→Shared→Prop} {s:Shared} {Q:α→Shared→Prop} (hh:A.handled=none)
 (h:∀ h' e,(∀ b o,s.heap.get? b=some o→h'.get? b=some o)→(∃ o,h'.get? e=some o∧o.cls=.type "StopIteration")→E (.ref e) {s with heap:=h'}):wpAny M A (Builtin.SmallTypes.stopIteration:Sem α) Q E s:=by
 refine (?_:wpAny _ _ (newExc (.type "StopIteration") [] >>= _) _ _ _);refine wpAny_bind ?_;simp only [newExc,newTuple]
 refine wpAny_bind (wpAny_newObj_type ?_ (by size_fits));refine wpAny_bind (m:=firstArgMember _ _) (wpAny_of_eq (a:=Value.none) (by first | rfl | (simp only [firstArgMember];rfl)) ?_);refine wpAny_newObj_type ?_ (by size_fits);simp only [raiseNew]
 refine wpAny_bind (wpAny_handled ?_);refine rwg (hh ..) ?_;refine wpAny_bind (wpAny_pure (wpAny_throw ?_));exact h _ _ (fun b o e=>Heap.get?_push_of_some _ (Heap.get?_push_of_some _ e)) (aA0 (_) (Heap.get?_push_size _ rfl) (rfl))
theorem dC3 {prog:Program} {w:World} {A:Around} {s:Shared} {E:Value→Shared→Prop} {Q:Option Value→Shared→Prop} {I:Addr} (hh:A.handled=none) (hI:s.heap.get? I=some aW8)
 (hQ:∀ h',(∀ b o,s.heap.get? b=some o→h'.get? b=some o)→Q none {s with heap:=h'}):wpAny (model prog w) A (pyNext (.ref I)) Q E s:=by
 have hT:s.TypeIs (.ref I) "callable_iterator":=(aA0 (_) (hI) (rfl));refine wpAny_bind (wpAny_attempt (wpAny_callSpecial?_slot (name:=ofString "__next__") hT slot_ci_next (wpAny_call_entry slot_ci_next hT aL5 ?_ (aN2 _))));refine (?_:wpAny _ _ (field (.ref I) 2 >>= _) _ _ _);refine wpAny_bind (wpAny_field hI rfl (x:=.bool true) rfl ?_);refine wpAny_bind (wpAny_rule ?_);refine wpAny_bind (bA6 hh fun h' e hk he=>?_);(refine aA3 he ?_;clear he;intro o ho hc)
 refine wpAny_bind (wpAny_isInstance (T:="StopIteration") (b:=true) (aA0 (o) (ho) (hc)) isSubtype_stop ?_);exact wpAny_pure (hQ _ hk)
theorem ci_end {prog:Program} {w:World} {p:Program} {loose:List Str} {mean:ExcName→Option Value} {mg mb:Str→Option Value} {A:Around} {s:Shared} {E:Value→Shared→Prop} {Q:Option Value→Shared→Prop}
 {Hb:Heap} {D:LexD} {ln:Int} {vs:List Value} {n:Nat} {I q:Addr} {t:Tok}
 (hA:InA 390 659 A) (X:(Mine.hd.heap_39 w.params).In Hb) (T:Top p loose mean mg mb Hb) (hk:∀ b o,Hb.get? b=some o→s.heap.get? b=some o) (hn:∀ a∈[D.S,D.dx,D.Xa,D.pb,D.f0,D.d,D.f1,D.c1,D.cc],Hb.get? a=none)
 (O:D.Ok) (hL:LexAt w.params D s.heap ln vs n []) (hI:s.heap.get? I=some (aO7 q t)) (hq:s.heap.get? q=some (methodObj (.ref 130) (.ref D.Xa))) (hIn:I≠D.dx∧I≠D.S) (hqn:q≠D.dx∧q≠D.S)
 (hQ:∀ h' tk' ln' vs' n',(∀ b o,b≠D.dx→b≠D.S→b≠I→s.heap.get? b=some o→h'.get? b=some o)→h'.get? I=some aW8→(∃ h2,LexAt w.params D h2 ln' vs' n' []∧∀ b o,b≠I→h2.get? b=some o→h'.get? b=some o)→Q none {s with heap:=h',toks:=tk'}) :
 wpAny (model prog w) A (pyNext (.ref I)) Q E s:=by
 have hT:s.TypeIs (.ref I) "callable_iterator":=(aA0 (_) (hI) (rfl));refine hide fun G_ k_=>?_;(refine aG9 (dD0 X) ?_;intro o130 fd130 h130b hfd)
 refine k_ ?_;have h130:=hk _ _ h130b;refine wpAny_bind (wpAny_attempt (wpAny_callSpecial?_slot (name:=ofString "__next__") hT slot_ci_next (wpAny_call_entry slot_ci_next hT aL5 ?_ (aN2 _))));refine (?_:wpAny _ _ (field (.ref I) 2 >>= _) _ _ _);refine wpAny_bind (wpAny_field hI rfl (x:=.bool false) rfl ?_);refine (?_:wpAny _ _ (field (.ref I) 0 >>= _) _ _ _);refine wpAny_bind (wpAny_field hI rfl (x:=.ref q) rfl ?_);refine wpAny_bind (wpAny_attempt ?_);refine wpAny_bind (aM8 hq h130 hfd ?_);refine rwg (if_pos rfl ..) ?_;refine x_call ?_ (fun z=>by cases z);refine method_call hq (hA.run1 (fun u_=>cF7 X T hk hn O hL ?_));intro h2 tk2 ln2 vs2 n2 t2 hk2 hL2;have hI2:h2.get? I=some (aO7 q t):=hk2 _ _ hIn.1 hIn.2 hI;have hq2:h2.get? q=some (methodObj (.ref 130) (.ref D.Xa)):=hk2 _ _ hqn.1 hqn.2 hq;have h130':h2.get? 130=some o130:=hk2 _ _ (fun z=>by (replace h130b:=(z ..)▸h130b;replace h130b:=(hn D.dx (by simp) ..)▸h130b);cases h130b) (fun z=>by (replace h130b:=(z ..)▸h130b;replace h130b:=(hn D.S (by simp) ..)▸h130b);cases h130b) h130;refine (?_:wpAny _ _ (pure _) _ _ _);refine wpAny_pure ?_;refine (?_:wpAny _ _ (field (.ref I) 2 >>= _) _ _ _);refine wpAny_bind (wpAny_field hI2 rfl (x:=.bool false) rfl ?_);refine (?_:wpAny _ _ (field (.ref I) 1 >>= _) _ _ _);refine wpAny_bind (wpAny_field hI2 rfl (x:=.str (ofString "") t) rfl ?_);refine wpAny_bind (wpAny_holding (eqBool_str ?_));refine rwg (show (ofString ""==List.headD [] (ofString ""))=true by decide +kernel) ?_;refine wpAny_bind (wpAny_rule ?_);refine wpAny_bind ?_;refine (?_:wpAny _ _ (field (.ref I) 0 >>= _) _ _ _);refine wpAny_bind (wpAny_field hI2 rfl (x:=.ref q) rfl ?_);refine wpAny_bind (wpAny_bind (aM8 hq2 h130' hfd ?_));refine rwg (if_pos rfl ..) ?_;refine wpAny_pure ?_;refine wpAny_bind (wpAny_setField_rec hI2 (by simp) fun h3 hI3 hs3=>?_);replace hI3:h3.get? I=some {cls:=.type "callable_iterator",data:=.fields #[.none,.str (ofString "") t,.bool false]}:=hI3;refine wpAny_bind (wpAny_setField_rec hI3 (by simp) fun h4 hI4 hs4=>?_);replace hI4:h4.get? I=some {cls:=.type "callable_iterator",data:=.fields #[.none,.none,.bool false]}:=hI4;refine wpAny_setField_rec hI4 (by simp) fun h5 hI5 hs5=>?_;replace hI5:h5.get? I=some aW8:=hI5;have hk5:∀ b o,b≠I→h2.get? b=some o→h5.get? b=some o:=fun b o hb e=>hs5.extBut _ _ hb (hs4.extBut _ _ hb (hs3.extBut _ _ hb e));refine bA6 hA.h fun h6 e hk6 he=>?_;refine hide fun G_ k_=>?_;(refine aA3 he ?_;clear he;intro o ho hc)
 refine k_ ?_;refine wpAny_bind (wpAny_isInstance (T:="StopIteration") (b:=true) (aA0 (o) (ho) (hc)) isSubtype_stop ?_);exact wpAny_pure (hQ _ _ _ _ _ (fun b o b1 b2 b3 e=>hk6 _ _ (hk5 _ _ b3 (hk2 _ _ b1 b2 e))) (hk6 _ _ hI5) (aA0 (h2) (hL2) (fun b o hb e=>hk6 _ _ (hk5 _ _ hb e))))
end
section
open PySem.W.X
theorem x_iter {prog:Program} {w:World} {outer:List Env} {E:Value→Shared→Prop} {s:Shared} {t:Tok} {q Xa:Addr} {Q:Value→Shared→Prop}
 (hq:s.heap.get? q=some (methodObj (.ref 130) (.ref Xa)))
 (hQ:∀ I h' tk',Mem s.heap h' [] [(I,aO7 q t)]→Q (.ref I) {s with heap:=h',toks:=tk'}) :
 wpAny (model prog w) (cA 350 500 outer) (call (.builtin "iter") [.ref q,.str (ofString "") t]) Q E s:=by
 refine xrun (P:=fun v nw u_=>∃ I,v=.ref I∧nw=[(I,aO7 q t)]) ?_ fun v h' t' nw D p=>?_
 ·clear hQ;obtain ⟨h,g,d,t,os⟩:=s;dsimp only at hq
  unfold methodObj at hq
  repeat (first | lk | (with_reducible refine x_at ?_))
  x_run
 ·(refine aA3 p ?_;clear p;intro I eo0 eo1;subst eo0;subst eo1)
  exact hQ _ _ _ D
end
noncomputable abbrev cZ4:Scope:={kind:=.function,names:=[(ofString "self",NameKind.local),(ofString "token",NameKind.local),(ofString "fiter",NameKind.local),(ofString "ch",NameKind.local),(ofString "iter",NameKind.globalImplicit)],isGenerator:=false,isCoroutine:=false}
noncomputable abbrev aK5 (L:Addr):Env:=envOf (ofString "_netrclex.get_token") cZ4 L 137 (.ref 136)
noncomputable abbrev wsT:Str:=ofString "\n\t\r "
theorem cU3 {P:Prop} {h₀ h:Heap} {L q:Addr} {o:Obj} {rest:List (Addr × Obj)} (_N:News h₀ L h ((q,o)::rest)) (k:∀ q',q'=q→P):P:=k q rfl
theorem bX9 {h₀ h':Heap} {news:List (Addr × Obj)} (D:PySem.W.X.Mem h₀ h' [] news):∀ b o,h₀.get? b=some o→h'.get? b=some o:=fun b o e=>D.keep b o e (by (refine rwg (show PySem.W.X.away [] b=true from rfl) ?_;refine rwg (Bool.or_true ..) ?_;rfl))
theorem cH {d:Nat} {l:List (Addr × Obj)} (h:AllLt d l):∀ p∈l,(@LT.lt Nat _ p.1 d):=by
 induction l with
 | nil=>intro p hp;cases hp
 | cons a r ih =>
  intro p hp;rcases mem_cons.mp hp with rfl | hp
  ·exact h.1
  ·exact ih h.2 p hp
theorem dC4 {h₀ h:Heap} {L:Addr} {m:Str→Option Value} {x y:Str} {u v:Value} (F:Fr h₀ L h (fun z=>if z=y then some u else if z=x then some v else m z)) (e:m x=some v):Fr h₀ L h (fun z=>if z=y then some u else m z):=by
 have:(fun z=>if z=y then some u else if z=x then some v else m z)=fun z=>if z=y then some u else m z:=by
  funext z
  by_cases hz:z=x
  ·(refine rwg (hz ..) ?_;refine rwg (if_pos (c:=x=x) rfl ..) ?_;refine rwg (e ..) ?_;rfl)
  ·(refine rwg (if_neg (c:=z=x) hz ..) ?_;rfl)
 refine rwb (this ..) ?_;exact F
section
variable {prog:Program} {w:World} {p:Program} {loose:List Str} {mean:ExcName→Option Value} {mg mb:Str→Option Value} {outer:List Env} {s:Shared} {h₀:Heap} {L:Addr} {m:Str→Option Value} {D:LexD} {ln:Int} {tl:Tok} {vs:List Value} {n:Nat}
theorem lx_ws {Q:Value→Shared→Prop} {E:Value→Shared→Prop} {p1 p2:Pos} (X:(Mine.hd.heap_39 w.params).In h₀) (T:Top p loose mean mg mb h₀) (F:Fr h₀ L s.heap m) (N:News h₀ L s.heap (D.all w.params ln tl vs n)) (hs:m (ofString "self")=some (.ref D.Xa))
  (hQ:∀ tk,Q (.str wsT D.tw) ⟨s.heap,s.gens,s.drawn,tk,s.os⟩):wpAny (model prog w) (cA 350 500 outer) (eval (.Attribute (.Name (ofString "self") p1) (ofString "whitespace") p2) (aK5 L)) Q E s:=by
 have F1:=cT6 F hs;dsimp only [LexD.all,LexD.stat,LexD.dict,aL3,ent] at N
 clear F
 repeat ((fail_if_success (with_reducible show wpAny _ _ (call (Value.builtin "iter") _) _ _ _));(fail_if_success (with_reducible show wpAny _ _ (call (Value.ref _) _) _ _ _));first | ((with_reducible show wpAny _ _ (exec (Stmt.If _ _ _ _) _) _ _ _);k_dflt (refine wpAny_If ?_)) | law_purse 400000=>(first | (k_unfold;(try dsimp only)) | walk1 | (dsimp only;walk1) | (leave1;walk_say "STEP leave1";try dsimp only)))
 exact hQ _
set_option tactic.hygienic true in
theorem dC8 {Q:Flow→Shared→Prop} {E:Value→Shared→Prop} {p1 p2 p3:Pos} {b:List Stmt} (X:(Mine.hd.heap_39 w.params).In h₀) (T:Top p loose mean mg mb h₀) (F:Fr h₀ L s.heap m) (N:News h₀ L s.heap (D.all w.params ln tl vs n)) (hs:m (ofString "self")=some (.ref D.Xa))
  (hQ:∀ tk,Q .next ⟨s.heap,s.gens,s.drawn,tk,s.os⟩):wpAny (model prog w) (cA 350 500 outer) (exec (.If (.Attribute (.Name (ofString "self") p1) (ofString "pushback") p2) b [] p3) (aK5 L)) Q E s:=by
 have F1:=cT6 F hs;dsimp only [LexD.all,LexD.stat,LexD.dict,aL3,ent] at N
 clear F
 repeat ((fail_if_success (with_reducible show wpAny _ _ (call (Value.builtin "iter") _) _ _ _));(fail_if_success (with_reducible show wpAny _ _ (call (Value.ref _) _) _ _ _));first | ((with_reducible show wpAny _ _ (exec (Stmt.If _ _ _ _) _) _ _ _);k_dflt (refine wpAny_If ?_)) | law_purse 400000=>(first | (k_unfold;(try dsimp only)) | walk1 | (dsimp only;walk1) | (leave1;walk_say "STEP leave1";try dsimp only)))
 exact hQ _
set_option tactic.hygienic true in
theorem cZ1 {Q:Flow→Shared→Prop} {E:Value→Shared→Prop} {rest:List (Addr × Obj)} (X:(Mine.hd.heap_39 w.params).In h₀) (T:Top p loose mean mg mb h₀) (F:Fr h₀ L s.heap m) (N:News h₀ L s.heap (D.all w.params ln tl vs n++rest)) (hs:m (ofString "self")=some (.ref D.Xa))
  (hQ:∀ I q t h' tk,Fr h₀ L h' (fun y=>if y=ofString "fiter" then some (.ref I) else m y)→News h₀ L h' ((I,aO7 q t)::(q,methodObj (.ref 130) (.ref D.Xa))::(D.all w.params ln tl vs n++rest))→(∀ p∈D.all w.params ln tl vs n++rest,p.1≠q)→(∀ p∈(q,methodObj (.ref 130) (.ref D.Xa))::(D.all w.params ln tl vs n++rest),p.1≠I)→Q .next ⟨h',s.gens,s.drawn,tk,s.os⟩) :
  wpAny (model prog w) (cA 350 500 outer) (exec (.Assign [.Name (ofString "fiter") ⟨136,8,136,13⟩] (.Call (.Name (ofString "iter") ⟨136,16,136,20⟩) [.Attribute (.Name (ofString "self") ⟨136,21,136,25⟩) (ofString "_read_char") ⟨136,21,136,36⟩,.Constant (.str (ofString "")) 0 ⟨136,38,136,40⟩] [] ⟨136,16,136,41⟩) ⟨136,8,136,41⟩) (aK5 L)) Q E s:=by
 have F1:=cT6 F hs;dsimp only [LexD.all,LexD.stat,LexD.dict,aL3,ent,cons_append,nil_append] at N
 clear F
 repeat ((fail_if_success (with_reducible show wpAny _ _ (call (Value.builtin "iter") _) _ _ _));(fail_if_success (with_reducible show wpAny _ _ (call (Value.ref _) _) _ _ _));first | ((with_reducible show wpAny _ _ (exec (Stmt.If _ _ _ _) _) _ _ _);k_dflt (refine wpAny_If ?_)) | law_purse 400000=>(first | (k_unfold;(try dsimp only)) | walk1 | (dsimp only;walk1) | (leave1;walk_say "STEP leave1";try dsimp only)))
 with_reducible rename Fr _ _ _ _=>F2
 with_reducible rename News _ _ _ _=>N2
 refine cU3 N2 ?_;intro q hq;subst hq;refine x_iter (N2 _ (.head _)).1 ?_;intro I h2 tk2 DM;(refine aH8 (cM3 F2 N2 (bX9 DM) (DM.nw _ (.head _)).1 (DM.nw _ (.head _)).2) ?_;intro F3 N3 ne3)
 clear F2 N2
 repeat ((fail_if_success (with_reducible show wpAny _ _ (call (Value.builtin "iter") _) _ _ _));(fail_if_success (with_reducible show wpAny _ _ (call (Value.ref _) _) _ _ _));first | ((with_reducible show wpAny _ _ (exec (Stmt.If _ _ _ _) _) _ _ _);k_dflt (refine wpAny_If ?_)) | law_purse 400000=>(first | (k_unfold;(try dsimp only)) | walk1 | (dsimp only;walk1) | (leave1;walk_say "STEP leave1";try dsimp only)))
 with_reducible rename Fr _ _ _ _=>F4
 with_reducible rename News _ _ _ _=>N4
 have hl:AllLt q (D.all w.params ln tl vs n++rest):=by assumption
 exact hQ I q _ _ _ (dC4 F4 hs) N4 (fun p hp=>ne_of_lt (cH hl p hp)) ne3
theorem bZ9 {A:Around} {Q:Value × List Value→Shared→Prop} {E:Value→Shared→Prop} {pl:Sem Bool} {nm:Str} {g:Addr} (X:(Mine.hd.heap_39 w.params).In h₀) (T:Top p loose mean mg mb h₀) (F:Fr h₀ L s.heap m) (N:News h₀ L s.heap (D.all w.params ln tl vs n)) (hg:(nm=ofString "_read_char"∧g=130)∨(nm=ofString "get_token"∧g=137))
  (hQ:Q (.ref g,[.ref D.Xa]) s):wpAny (model prog w) A (getMethod (.ref D.Xa) nm pl) Q E s:=by
 dsimp only [LexD.all,LexD.stat,LexD.dict,aL3,ent] at N
 rcases hg with ⟨rfl,rfl⟩ | ⟨rfl,rfl⟩
 ·repeat ((fail_if_success (with_reducible show wpAny _ _ (call (Value.builtin "iter") _) _ _ _));(fail_if_success (with_reducible show wpAny _ _ (call (Value.ref _) _) _ _ _));first | ((with_reducible show wpAny _ _ (exec (Stmt.If _ _ _ _) _) _ _ _);k_dflt (refine wpAny_If ?_)) | law_purse 400000=>(first | (k_unfold;(try dsimp only)) | walk1 | (dsimp only;walk1) | (leave1;walk_say "STEP leave1";try dsimp only)))
  exact hQ
 ·repeat ((fail_if_success (with_reducible show wpAny _ _ (call (Value.builtin "iter") _) _ _ _));(fail_if_success (with_reducible show wpAny _ _ (call (Value.ref _) _) _ _ _));first | ((with_reducible show wpAny _ _ (exec (Stmt.If _ _ _ _) _) _ _ _);k_dflt (refine wpAny_If ?_)) | law_purse 400000=>(first | (k_unfold;(try dsimp only)) | walk1 | (dsimp only;walk1) | (leave1;walk_say "STEP leave1";try dsimp only)))
  exact hQ
end
theorem aU3:Slot "callable_iterator" "__iter__" "callable_iterator.__iter__":=.of (owner:="callable_iterator") (n:="__iter__") (by (refine rwg (typeLookup_type ..) ?_;refine rwg (builtinLookup_eq_fast ..) ?_);kernel_rfl) (by decide +kernel) (by decide +kernel) (by decide +kernel)
  (by first | exact .inl (by decide +kernel) | exact .inr (by decide +kernel)) (by refine rwg (isSubtype_type ..) ?_;kernel_rfl)
theorem bJ6 (a:Value):argsOk "callable_iterator.__iter__" ⟨[a],[]⟩:=by kernel_rfl
theorem bG6:entryFor table "callable_iterator.__iter__"=some Builtin.«dict_keyiterator.__iter__»:=
 entryFor_alias (id':="dict_keyiterator.__iter__") (by kernel_rfl) (by first | rfl | decide +kernel | (unfold String.splitOn;simp +decide [String.splitOnAux])) (by decide +kernel) (by kernel_rfl)
theorem cZ7 {prog:Program} {w:World} {A:Around} {s:Shared} {E:Value→Shared→Prop} {Q:Value→Shared→Prop} {I:Addr} {o:Obj} (hI:s.heap.get? I=some o) (hc:o.cls=.type "callable_iterator") (h:Q (.ref I) s) :
 wpAny (model prog w) A (pyIter (.ref I)) Q E s:=by
 have hT:s.TypeIs (.ref I) "callable_iterator":=(aA0 (_) (hI) (hc));refine wpAny_pyIter_slot hT aU3 (wpAny_call_entry aU3 hT bG6 ?_ (bJ6 _));refine (?_:wpAny _ _ (ret (.ref I)) _ _ s);exact wpAny_pure ⟨_,rfl,"callable_iterator",_,hT,slot_ci_next.lookup,h⟩
noncomputable def aZ6 (D:LexD) (q:Addr) (t:Tok) (live:Bool):Option Addr→List (Addr × Obj)
 | none=>[]
 | some I=>[(I,if live=true then aO7 q t else aW8),(q,methodObj (.ref 130) (.ref D.Xa))]
noncomputable def aU7 (i:Option Addr) (xs:List Str):List Value:=(match i with | some a=>.ref a | none=>.none)::xs.map fun x=>.str x 0
theorem bE3:∀ {xs ys:List Str},(xs.map fun x=>Value.str x 0)=ys.map (fun x=>Value.str x 0)→xs=ys
 | [],[],_=>rfl
 | [],_::_,h=>nomatch h
 | _::_,[],h=>nomatch h
 | x::xs,y::ys,h=>by
  (refine aE8 (List.cons.inj h) ?_;intro h1 h2)
  (refine rwg ((Value.str.inj h1).1) ?_;refine rwg (bE3 h2 ..) ?_;rfl)
theorem bS3 {i j:Option Addr} {xs ys:List Str} (h:aU7 i xs=aU7 j ys):i=j∧xs=ys:=by
 (refine aE8 (List.cons.inj h) ?_;intro h1 h2)
 refine ⟨?_,?_⟩
 ·clear h;cases i<;>cases j<;>first | rfl | cases h1;rfl | cases h1
 ·exact bE3 h2
structure TokD where
 q:Addr
 t:Tok
 live:Bool
 ln:Int
 tl:Tok
 vs:List Value
 n:Nat
structure TokOk (T:TokD) (xs:List Str):Prop where
 lv:T.live=false→xs=[]
 st:StrsAre T.vs xs
 n:xs.length≤1000
 h1:∀ y∈xs,y.length=1
 l0:0≤T.ln
 l1:T.ln + (xs.length:Int)≤1000000
noncomputable abbrev bO8 (P:Params) (D:LexD) (T:TokD) (i:Option Addr):List (Addr × Obj):=D.all P T.ln T.tl T.vs T.n++aZ6 D T.q T.t T.live i
inductive WTok (P:Params) (D:LexD):List Value→List (Addr × Obj)→Prop
 | mk (T:TokD) (i:Option Addr) (xs:List Str) (h:TokOk T xs):WTok P D (aU7 i xs) (bO8 P D T i)
noncomputable def lxE (D:LexD) (G:Gx) (e:Expr) (σ:St) (K:AV→St→Prop):Prop:=aB4 (aY4 e) fun q=>aG8 (aE7 q.1==some (ofString "self") && q.2.1==ofString "whitespace") <| σ.loc.lookup (ofString "self")=some (.val (.ref D.Xa))∧K (.str wsT) σ
noncomputable def bY8 (e:Expr):Bool:=((aY4 e).map fun q=>aE7 q.1==some (ofString "self") && q.2.1==ofString "pushback").getD false
noncomputable def lxAsg (P:Params):Option (Scope × Stmt):=match (Mine.hd.heap_39 P).lookup 137 with
 | some ⟨_,_,.func fd,_⟩=>match fd.body with
  | .stmts b=>b[2]?.map fun s=>(fd.scope,s)
  | _=>none
 | _=>none
noncomputable def aZ (σ:St) (i:Option Addr) (xs:List Str):St:=⟨σ.loc,σ.obj,⟨aU7 i xs,σ.wd.fz⟩⟩
noncomputable def lxFor (D:LexD) (Gb:Gx) (G:Gx) (t it:Expr) (b o:List Stmt) (σ:St) (K:Fl→St→Prop):Prop:=aB4 (aE7 t) fun x=>aB4 (aE7 it) fun y=>aG8 (o.isEmpty && (bB3 y && aJ7 G y)) <| ∃ (a:Addr) (xs:List Str) (I:List Str→St→Prop),(σ.loc.lookup y=some (.val (.ref a))∧σ.wd.v=aU7 (some a) xs∧I xs σ)∧(∀ ys σ2,I ys σ2→σ2.wd.v=aU7 (some a) ys) ∧
   (∀ c r σ2,c.length=1→r.length≤1000→I (c::r) σ2→bI2 G x (.str c) (aZ σ2 (some a) r) fun σ3=>ex Gb 40 b σ3 (aC2 K (K .next) (again σ.obj.length fun σ4=>∃ ys,ys.length≤r.length∧I ys σ4)))∧∀ σ2,I [] σ2→K .next (aZ σ2 (some a) [])
noncomputable def lxF (P:Params) (D:LexD) (Gb:Gx→Gx) (G:Gx) (st:Stmt) (σ:St) (K:Fl→St→Prop):Prop :=
 aI6 (forS? st) (fun q=>lxFor D (Gb G) G q.1 q.2.1 q.2.2.1 q.2.2.2.1 σ K) <| aI6 (ifS? st) (fun q=>aG8 (bY8 q.1 && q.2.2.1.isEmpty) <| σ.loc.lookup (ofString "self")=some (.val (.ref D.Xa))∧K .next σ) <|
 (lxAsg P=some (G.cs,st)∧σ.loc.lookup (ofString "self")=some (.val (.ref D.Xa)))∧∃ i xs,σ.wd.v=aU7 i xs∧∀ I,(aZ σ (some I) xs).putK (ofString "fiter") (.val (.ref I)) (K .next)
noncomputable def lxG (P:Params) (D:LexD):Nat→Gx→Gx
 | 0,G=>{G with exe:=lxE D G,exo:=fun u_ u_ u_=>False}
 | k + 1,G=>{G with exe:=lxE D G,exo:=lxF P D (lxG P D k) G}
noncomputable def lxHk (P:Params) (D:LexD):Hk:=⟨fun e=>(aY4 e).isSome || aE7 e==some (ofString "fiter"),fun G=>lxE D G,fun G=>lxF P D (lxG P D 1) G⟩
noncomputable def dA9:Hk:=⟨fun u_=>false,fun u_ u_ u_ u_=>False,fun u_ u_ u_ u_=>False⟩
noncomputable def lxU (P:Params) (D:LexD):Un where
 K:=Mine.hd.heap_39 P
 glob:=fun u_=>none
 tab:=fun u_=>none
 W:=WZ (WTok P D)
 isPrim:=fun g=>match g with
  | .ref f=>f==130
  | _=>false
 prim:=fun u_ g as σ K=>(g=.ref 130∧as=[.val (.ref D.Xa)])∧∃ i xs,σ.wd.v=aU7 i xs∧K (.str (xs.headD (ofString ""))) (aZ σ i xs.tail)
 fn:=fun u_=>false
 vmeth:=fun wd a nm=>match a==D.Xa && nm==ofString "_read_char" with
  | true=>some 130
  | false=>none
 hk:=fun f=>match f==137 with
  | true=>lxHk P D
  | false=>dA9
inductive LxAt (P:Params) (V:Vw) (D:LexD) (m:Str→Option Value) (ρ:List Addr) (σ:St) (i:Option Addr) (xs:List Str) (h:Heap):Prop
 | mk (pre hz nw:List (Addr × Obj)) (T:TokD) (e:ρ=nw.map (·.1)) (F:Fr V.h₀ V.L h m) (N:News V.h₀ V.L h ((pre++(hz++bO8 P D T i))++nw)) (Pc:Pcs V σ m (pre++(hz++bO8 P D T i)) nw) (ok:TokOk T xs)
   (up:∀ (T':TokD) (i':Option Addr) (xs':List Str),TokOk T' xs'→V.W ⟨aU7 i' xs',σ.wd.fz⟩ (pre++(hz++bO8 P D T' i'))):LxAt P V D m ρ σ i xs h
section
variable {P:Params} {V:Vw} {D:LexD} {m:Str→Option Value} {ρ:List Addr} {σ:St} {i:Option Addr} {xs:List Str} {h h':Heap}
theorem aV7 (ov:V.Over (WZ (WTok P D))) (R:Rel V m ρ σ h) (hv:σ.wd.v=aU7 i xs):LxAt P V D m ρ σ i xs h:=by
 refine hide fun G_ k_=>?_;(refine R.el ?_;intro hw nw e F N Pc)
 (refine aD1 (ov _ _ Pc.hW) ?_;intro pre l0 eo0 hW up;subst eo0)
 refine k_ ?_;cases hW with
 | mk hz h0 hf hq =>
  replace hq:=(hv ..)▸hq;generalize hvv:aU7 i xs=v at hq;cases hq with
  | mk T j ys ok =>
   refine hide fun G_ k_=>?_;(refine aE8 (bS3 hvv) ?_;intro eo0 eo1;clear hvv;subst eo0;subst eo1)
   refine k_ ?_;exact .mk pre hz nw T e F N Pc ok fun T' i' xs' ok'=>up _ _ (.mk (wd:=⟨aU7 i' xs',σ.wd.fz⟩) hz _ hf (.mk T' i' xs' ok'))
theorem aT1 {α:Type} {x:α} {pre hz a b nw:List α} (h:x∈a):x∈(pre++(hz++(a++b)))++nw:=mem_append_left _ (mem_append_right _ (mem_append_right _ (mem_append_left _ h)))
theorem bF3 {α:Type} {x:α} {pre hz a b nw:List α} (h:x∈b):x∈(pre++(hz++(a++b)))++nw:=mem_append_left _ (mem_append_right _ (mem_append_right _ (mem_append_right _ h)))
theorem Pcs.world {V:Vw} {hw hw' nw:List (Addr × Obj)} {wd':Wd} (F:Fr V.h₀ V.L h m) (N:News V.h₀ V.L h (hw++nw)) (Pc:Pcs V σ m hw nw) (hm:hw'.map (·.1)=hw.map (·.1)) (hW:V.W wd' hw') (ex:List Addr) (hex:∀ b∈ex,b∈hw.map (·.1)) (keep:∀ b o,b∉ex→h.get? b=some o→h'.get? b=some o) (hg:∀ p∈hw',h'.get? p.1=some p.2):Rel V m (nw.map (·.1)) ⟨σ.loc,σ.obj,wd'⟩ h':=by
 have nd:=Pc.nd;have off:∀ b∈ex,b≠V.L∧V.h₀.get? b=none:=fun b hb=>by
  (refine aA6 (hex b hb) ?_;intro p hp eo0;clear hb;subst eo0)
  exact (N p (mem_append_left _ hp)).2
 refine ⟨hw',nw,rfl,⟨F.ns.at' fun o e=>keep _ o (fun q=>(off _ q).1 rfl) e,fun b o e=>keep b o (fun q=>by replace e:=((off _ q).2)▸e;cases e) (F.keep b o e),F.above⟩,fun p hp=>?_,hW,by (refine rwg (map_append ..) ?_;refine rwg (hm ..) ?_;refine rwb (map_append ..) ?_);exact nd,Pc.len,Pc.ob,Pc.lo,Pc.ce⟩;rcases mem_append.mp hp with hp | hp
 ·have:p.1∈hw.map (·.1):=hm▸mem_map_of_mem hp;(refine aA6 this ?_;intro q hq e)
  exact ⟨hg p hp,e▸(N q (mem_append_left _ hq)).2⟩
 ·have z:=N p (mem_append_right _ hp);refine ⟨keep _ _ (fun q=>?_) z.1,z.2⟩;rw [map_append,nodup_append] at nd;exact nd.2.2 _ (hex _ q) _ (mem_map_of_mem hp) rfl
theorem bP0 {T T':TokD} (h1:T'.q=T.q):(bO8 P D T' i).map (·.1)=(bO8 P D T i).map (·.1):=by
 (refine rwg (map_append ..) ?_;refine rwg (map_append ..) ?_)
 cases i with
 | none=>rfl
 | some I=>refine (?_:_++[I,T'.q]=_++[I,T.q]);refine rwg (h1 ..) ?_;rfl
theorem bQ1 {pre hz a b:List (Addr × Obj)} (h:a.map (·.1)=b.map (·.1)):(pre++(hz++a)).map (·.1)=(pre++(hz++b)).map (·.1):=by
 (refine rwg (map_append ..) ?_;refine rwg (map_append ..) ?_;refine rwg (h ..) ?_;refine rwb (map_append ..) ?_;refine rwb (map_append ..) ?_;rfl)
variable {prog:Program} {w:World} {p:Program} {loose:List Str} {mean:ExcName→Option Value} {mg mb:Str→Option Value} {s:Shared} {A:Around}
theorem bB6 {pre hz a b nw:List (Addr × Obj)} {x y:Addr × Obj} (nd:(((pre++(hz++(a++b)))++nw).map (·.1)).Nodup) (hx:x∈a) (hy:y∈pre∨y∈hz∨y∈b∨y∈nw):y.1≠x.1:=by
 simp only [map_append,nodup_append,mem_append] at nd
 have hx:=mem_map_of_mem (f:=(·.1)) hx;rcases hy with hy | hy | hy | hy
 ·exact nd.1.2.2 _ (mem_map_of_mem hy) _ (.inr (.inl hx))
 ·exact nd.1.2.1.2.2 _ (mem_map_of_mem hy) _ (.inl hx)
 ·exact Ne.symm (nd.1.2.1.2.1.2.2 _ hx _ (mem_map_of_mem hy))
 ·exact Ne.symm (nd.2.2 _ (.inr (.inr (.inl hx))) _ (mem_map_of_mem hy))
theorem cX5 (O:D.Ok) (X:(Mine.hd.heap_39 w.params).In V.h₀) (T0:Top p loose mean mg mb V.h₀) (a:InA 390 660 A) (z:LxAt w.params V D m ρ σ i xs s.heap) {R:Result→Shared→Prop}
  (hR:∀ h' tk' t',Rel V m ρ (aZ σ i xs.tail) h'→R (.ok (.ret (.str (xs.headD (ofString "")) t'))) ⟨h',s.gens,s.drawn,tk',s.os⟩):codeAny (model prog w) A (.call (.ref 130) ⟨[.ref D.Xa],[]⟩) R s:=by
 obtain ⟨pre,hz,nw,T,e,F,N,Pc,ok,up⟩:=z;have hat:∀ q∈D.all w.params T.ln T.tl T.vs T.n,s.heap.get? q.1=some q.2∧q.1≠V.L∧V.h₀.get? q.1=none:=fun q hq=>N q (aT1 hq);refine a.run fun outer=>cF7 X T0 F.keep (fun b hb=>?_) O ⟨⟨T.tl,fun q hq=>(hat q hq).1⟩,ok.st,ok.n,ok.l0,ok.l1⟩ fun h' tk' ln' vs' n' t' hk hL=>?_
 ·have hb:b∈(D.all w.params T.ln T.tl T.vs T.n).map (·.1):=hb;(refine aA6 hb ?_;intro q hq eo0;clear hb;clear hb;subst eo0)
  exact (hat q hq).2.2
 ·obtain ⟨⟨tl',hat'⟩,c1,c2,c4,c5⟩:=hL;have ok':TokOk ⟨T.q,T.t,T.live,ln',tl',vs',n'⟩ xs.tail:=⟨fun q=>by refine rwg (ok.lv q ..) ?_;rfl,c1,c2,fun y hy=>ok.h1 y (List.mem_of_mem_tail hy),c4,c5⟩;refine hR h' tk' t' (e▸Pcs.world F N Pc (bQ1 (bP0 (T:=T) (T':=⟨T.q,T.t,T.live,ln',tl',vs',n'⟩) rfl)) (up _ _ _ ok') [D.dx,D.S] (fun b hb=>?_) (fun b o hb=>hk b o (fun q=>hb (q▸.head _)) fun q=>hb (q▸.tail _ (.head _))) fun q hq=>?_)
  ·rcases mem_cons.mp hb with rfl | hb
   ·exact mem_map_of_mem (f:=(·.1)) (mem_append_right pre (mem_append_right hz (mem_append_left _ (.tail _ (.head _)))))
   ·refine rwg (mem_singleton.mp hb ..) ?_;exact mem_map_of_mem (f:=(·.1)) (mem_append_right pre (mem_append_right hz (mem_append_left _ (.head _))))
  ·have other:(q∈pre∨q∈hz∨q∈aZ6 D T.q T.t T.live i)→h'.get? q.1=some q.2:=fun hy=>by
    have hy':q∈pre∨q∈hz∨q∈aZ6 D T.q T.t T.live i∨q∈nw:=hy.imp_right (·.imp_right .inl);refine hk _ _ (bB6 Pc.nd (x:=(D.dx,_)) (.tail _ (.head _)) hy') (bB6 Pc.nd (x:=(D.S,_)) (.head _) hy') (N q (mem_append_left _ ?_)).1;rcases hy with hy | hy | hy
    ·exact mem_append_left _ hy
    ·exact mem_append_right _ (mem_append_left _ hy)
    ·exact mem_append_right _ (mem_append_right _ (mem_append_right _ hy))
   rcases mem_append.mp hq with hq | hq
   ·exact other (.inl hq)
   rcases mem_append.mp hq with hq | hq
   ·exact other (.inr (.inl hq))
   rcases mem_append.mp hq with hq | hq
   ·exact hat' q hq
   ·exact other (.inr (.inr hq))
theorem dA0 (O:D.Ok) (X:(Mine.hd.heap_39 w.params).In V.h₀) (T0:Top p loose mean mg mb V.h₀) (a:InA 390 659 A) {I:Addr} (z:LxAt w.params V D m ρ σ (some I) xs s.heap) {Q:Option Value→Shared→Prop} {E:Value→Shared→Prop}
  (h1:∀ c r,xs=c::r→c.length=1→r.length≤1000→∀ h' tk' t',Rel V m ρ (aZ σ (some I) r) h'→Q (some (.str c t')) ⟨h',s.gens,s.drawn,tk',s.os⟩)
  (h2:xs=[]→∀ h' tk',Rel V m ρ (aZ σ (some I) []) h'→Q none ⟨h',s.gens,s.drawn,tk',s.os⟩):wpAny (model prog w) A (pyNext (.ref I)) Q E s:=by
 obtain ⟨pre,hz,nw,T,e,F,N,Pc,ok,up⟩:=z;have hat:∀ q∈D.all w.params T.ln T.tl T.vs T.n,s.heap.get? q.1=some q.2∧q.1≠V.L∧V.h₀.get? q.1=none:=fun q hq=>N q (aT1 hq);have hn:∀ b∈[D.S,D.dx,D.Xa,D.pb,D.f0,D.d,D.f1,D.c1,D.cc],V.h₀.get? b=none:=fun b hb=>by
  have hb:b∈(D.all w.params T.ln T.tl T.vs T.n).map (·.1):=hb;(refine aA6 hb ?_;intro q hq eo0;clear hb;clear hb;subst eo0)
  exact (hat q hq).2.2
 have hI:=N (I,if T.live=true then aO7 T.q T.t else aW8) (bF3 (.head _));have hQ:=N (T.q,methodObj (.ref 130) (.ref D.Xa)) (bF3 (.tail _ (.head _)));have ne:∀ x∈D.all w.params T.ln T.tl T.vs T.n,I≠x.1∧T.q≠x.1:=fun x hx=>⟨bB6 Pc.nd hx (y:=(I,if T.live=true then aO7 T.q T.t else aW8)) (.inr (.inr (.inl (.head _)))),bB6 Pc.nd hx (y:=(T.q,methodObj (.ref 130) (.ref D.Xa))) (.inr (.inr (.inl (.tail _ (.head _)))))⟩;have exm:∀ b∈[D.dx,D.S,I],b∈(pre++(hz++bO8 w.params D T (some I))).map (·.1):=fun b hb=>by
  have key:∀ q∈bO8 w.params D T (some I),q.1∈(pre++(hz++bO8 w.params D T (some I))).map (·.1):=fun q hq=>mem_map_of_mem (f:=(·.1)) (mem_append_right pre (mem_append_right hz hq));rcases mem_cons.mp hb with rfl | hb
  ·exact key (D.dx,_) (mem_append_left _ (.tail _ (.head _)))
  rcases mem_cons.mp hb with rfl | hb
  ·exact key (D.S,_) (mem_append_left _ (.head _))
  ·refine rwg (mem_singleton.mp hb ..) ?_;exact key (I,if T.live=true then aO7 T.q T.t else aW8) (mem_append_right _ (.head _))
 have fin:∀ (T':TokD) (r:List Str) (h':Heap),TokOk T' r→T'.q=T.q→(∀ b o,b∉[D.dx,D.S,I]→s.heap.get? b=some o→h'.get? b=some o)→(∀ q∈D.all w.params T'.ln T'.tl T'.vs T'.n,h'.get? q.1=some q.2)→h'.get? I=some (if T'.live=true then aO7 T'.q T'.t else aW8)→Rel V m ρ (aZ σ (some I) r) h':=by
  intro T' r h' ok' eq hk hat' hI';refine e▸Pcs.world F N Pc (bQ1 (bP0 eq)) (up T' (some I) r ok') [D.dx,D.S,I] exm hk fun q hq=>?_;have off:(q∈pre∨q∈hz)→q.1∉[D.dx,D.S,I]:=fun hy hb=>by
   have nd:=Pc.nd;rw [map_append,nodup_append] at nd;have key:∀ x∈bO8 w.params D T (some I),q.1≠x.1:=fun x hx=>by
    have nd:=nd.1;simp only [map_append,nodup_append,mem_append] at nd
    have hx:=mem_map_of_mem (f:=(·.1)) hx;rw [map_append] at hx;have hx:=mem_append.mp hx;rcases hy with hy | hy
    ·exact nd.2.2 _ (mem_map_of_mem hy) _ (.inr hx)
    ·exact nd.2.1.2.2 _ (mem_map_of_mem hy) _ hx
   rcases mem_cons.mp hb with z | hb
   ·exact key (D.dx,_) (mem_append_left _ (.tail _ (.head _))) z
   rcases mem_cons.mp hb with z | hb
   ·exact key (D.S,_) (mem_append_left _ (.head _)) z
   ·exact key (I,if T.live=true then aO7 T.q T.t else aW8) (mem_append_right _ (.head _)) (mem_singleton.mp hb)
  rcases mem_append.mp hq with hq | hq
  ·exact hk _ _ (off (.inl hq)) (N q (mem_append_left _ (mem_append_left _ hq))).1
  rcases mem_append.mp hq with hq | hq
  ·exact hk _ _ (off (.inr hq)) (N q (mem_append_left _ (mem_append_right _ (mem_append_left _ hq)))).1
  rcases mem_append.mp hq with hq | hq
  ·exact hat' q hq
  clear off;rcases mem_cons.mp hq with rfl | hq
  ·exact hI'
  ·obtain rfl:=mem_singleton.mp hq;refine (?_:h'.get? T'.q=_);refine rwg (eq ..) ?_;refine hk _ _ (fun hb=>?_) hQ.1;rcases mem_cons.mp hb with z | hb
   ·exact (ne (D.dx,_) (.tail _ (.head _))).2 z
   rcases mem_cons.mp hb with z | hb
   ·exact (ne (D.S,_) (.head _)).2 z
   ·have nd:=Pc.nd;simp only [map_append,nodup_append,mem_append] at nd
    have z:T.q=I:=mem_singleton.mp hb;have:=nd.1.2.1.2.1.2.1;rw [show (aZ6 D T.q T.t T.live (some I)).map (·.1)=[I,T.q] from rfl,z] at this;exact absurd (List.Mem.head _) (nodup_cons.mp this).1
 cases hl:T.live with
 | false =>
  clear h1;obtain rfl:=ok.lv hl;(replace hI:=(hl ..)▸hI;replace hI:=(if_neg Bool.false_ne_true ..)▸hI)
  refine dC3 a.h hI.1 fun h' hk=>h2 rfl h' _ (fin T [] h' ok rfl (fun b o u_=>hk b o) (fun q hq=>hk _ _ (hat q hq).1) ?_);(refine rwg (hl ..) ?_;refine rwg (if_neg Bool.false_ne_true ..) ?_)
  exact hk _ _ hI.1
 | true =>
  (replace hI:=(hl ..)▸hI;replace hI:=(if_pos rfl ..)▸hI)
  have hL:LexAt w.params D s.heap T.ln T.vs T.n xs:=⟨⟨T.tl,fun q hq=>(hat q hq).1⟩,ok.st,ok.n,ok.l0,ok.l1⟩;have hI1:=(ne (D.dx,_) (.tail _ (.head _)));have hI2:=(ne (D.S,_) (.head _));cases xs with
  | nil =>
   refine ci_end a X T0 F.keep hn O hL hI.1 hQ.1 ⟨hI1.1,hI2.1⟩ ⟨hI1.2,hI2.2⟩ fun h' tk' ln' vs' n' hk hI' hL'=>?_;(refine aA3 hL' ?_;clear hL';intro h3 no0 hk3;obtain ⟨⟨tl',hat'⟩,c1,c2,c4,c5⟩:=no0)
   refine h2 rfl h' tk' (fin ⟨T.q,T.t,false,ln',tl',vs',n'⟩ [] h' ⟨fun u_=>rfl,c1,c2,(fun y hy=>nomatch hy),c4,c5⟩ rfl (fun b o hb=>hk b o (fun q=>hb (q▸.head _)) (fun q=>hb (q▸.tail _ (.head _))) fun q=>hb (q▸.tail _ (.tail _ (.head _)))) (fun q hq=>hk3 _ _ (fun z=>?_) (hat' q hq)) hI');have hq:q.1∈(D.all w.params T.ln T.tl T.vs T.n).map (·.1):=mem_map_of_mem (f:=(·.1)) hq;(refine aA6 hq ?_;intro q' hq' e')
   exact (ne q' hq').1 (e'.trans z).symm
  | cons c r =>
   have hc:=ok.h1 c (.head _);have hce:(ofString ""==c)=false:=beq_eq_false_iff_ne.mpr fun q=>by replace hc:=(Eq.symm (q ..))▸hc;exact absurd hc (by decide +kernel)
   refine cZ8 a X T0 F.keep hn O hL hce hI.1 hQ.1 ⟨hI1.1,hI2.1⟩ fun h' tk' ln' vs' n' t' hk hL'=>?_;obtain ⟨⟨tl',hat'⟩,c1,c2,c4,c5⟩:=hL';have hkI:h'.get? I=some (aO7 T.q T.t):=hk _ _ hI1.1 hI2.1 hI.1;refine h1 c r rfl hc c2 h' tk' t' (fin ⟨T.q,T.t,true,ln',tl',vs',n'⟩ r h' ⟨(fun q=>nomatch q),c1,c2,fun y hy=>ok.h1 y (.tail _ hy),c4,c5⟩ rfl (fun b o hb=>hk b o (fun q=>hb (q▸.head _)) fun q=>hb (q▸.tail _ (.head _))) hat' ?_);refine rwg (if_pos rfl ..) ?_;exact hkI
end
theorem bJ2 {P:Params} {fd:FuncData} {L:Addr} (h:bC9 (Mine.hd.heap_39 P) (.ref 137)=some (137,fd)):aK9 fd 137 L=aK5 L:=by
 have e:(bC9 (Mine.hd.heap_39 P) (.ref 137)).map (fun q=>aK9 q.2 137 L)=some (aK5 L):=by kernel_rfl
 rw [h] at e;exact Option.some.inj e
section
variable {prog:Program} {w:World} {p:Program} {loose:List Str} {mean:ExcName→Option Value} {mg mb:Str→Option Value} {A:Around} {V:Vw} {D:LexD} {m:Str→Option Value} {ρ:List Addr} {σ:St} {s:Shared} {G:Gx}
theorem AOk.inA (a:AOk 0 A):InA 340 460 A:=⟨a.hh,le_trans a.d (by decide),le_trans a.u (by decide),a.fr⟩
theorem InA.mono {d u d' u':Nat} (a:InA d u A) (h1:d≤d') (h2:u≤u'):InA d' u' A:=⟨a.h,le_trans a.d h1,le_trans a.u h2,a.fr⟩
theorem InA.wrun {d u:Nat} {α:Type} {M:Model} {t:Sem α} {Q:α→Shared→Prop} {E:Value→Shared→Prop} (a:InA d u A) (h:∀ outer,wpAny M (cA d u outer) t Q E s):wpAny M A t Q E s :=
 let ⟨o,e⟩:=a.fr
 bC7 (h o) a.h a.d e a.u
theorem cA7 (ov:V.Over (WZ (WTok w.params D))) (R:Rel V m ρ σ s.heap):∃ i xs,LxAt w.params V D m ρ σ i xs s.heap:=by
 have ⟨hw,nw,e,F,N,Pc⟩:=R.pcs;refine hide fun G_ k_=>?_;(refine aD1 (ov _ _ Pc.hW) ?_;intro pre l0 _ hW up)
 refine k_ ?_;generalize hv:σ.wd=wd at hW;cases hW with
 | mk hz h0 hf hq =>
  generalize hvv:wd.v=v at hq;cases hq with
  | mk T i xs ok=>exact (aT2 (i) (xs) (aV7 ov R (hv▸hvv)))
theorem bE7 (R:Rel V m ρ σ s.heap) (nm:∀ m x,V.nm m x=m x) {x:Str} {a:Addr} (h:σ.loc.lookup x=some (.val (.ref a))):m x=some (.ref a):=by
 refine hide fun G_ k_=>?_;(refine R.el ?_;intro hw nw e F N Pc)
 (refine aA3 (Pc.lo _ _ h) ?_;intro v hv hi)
 refine k_ ?_;rw [nm] at hv;(refine rwg (hv ..) ?_;refine rwg (show v=.ref a from hi) ?_;rfl)
theorem cR0 {e:Expr} {K:AV→St→Prop} {Q:Value→Shared→Prop} {E:Value→Shared→Prop} (X:(Mine.hd.heap_39 w.params).In V.h₀) (T0:Top p loose mean mg mb V.h₀) (a:AOk 0 A) (ov:V.Over (WZ (WTok w.params D))) (R:Rel V m ρ σ s.heap) (nm:∀ m x,V.nm m x=m x) (h:lxE D G e σ K) (hQ:Res V m ρ s K Q) :
  wpAny (model prog w) A (eval e (aK5 V.L)) Q E s:=by
 refine hide fun G_ k_=>?_;(refine aA h ?_;intro no0 he h;obtain ⟨o,n,p2⟩:=no0)
 (refine aH8 (aL2 h) ?_;intro hc hs hK)
 rw [Bool.and_eq_true] at hc;clear h;obtain rfl:=aV1 he;(refine aI1 (eq_of_beq hc.1) ?_;intro p1 eo0;clear h he;subst eo0)
 obtain rfl:n=_:=eq_of_beq hc.2;(refine aY5 (cA7 ov R) ?_;intro i xs z)
 refine k_ ?_;cases z with
 | mk pre hz nw T e F N Pc ok up =>
  exact (a.inA.mono (d':=350) (u':=500) (by decide) (by decide)).wrun fun outer=>lx_ws X T0 F (fun q hq=>N q (aT1 hq)) (bE7 R nm hs) fun tk=>hQ.same R (aF5 _) hK tk
theorem hk_gok {h₀:Heap} {β:List Addr} (g:GOk G prog w A h₀ β) (f:Expr→St→(AV→St→Prop)→Prop) (f':Stmt→St→(Fl→St→Prop)→Prop):GOk {G with exe:=f,exo:=f'} prog w A h₀ β :=
 ⟨g.hh,g.hu,g.ar,g.glob,g.base,g.tab,g.call,g.fn,g.meth,g.vmeth,g.fz,g.frz⟩
theorem cT0 {env:Env} (H:FOk G prog w A V env) (f:Expr→St→(AV→St→Prop)→Prop) (f':Stmt→St→(Fl→St→Prop)→Prop)
  (he:∀ (hx:List (Addr × Obj)) (e:Expr) (m:Str→Option Value) (σ:St) (K:AV→St→Prop) (ρ:List Addr) (s:Shared) (Q:Value→Shared→Prop) (E:Value→Shared→Prop),Rel (V.plus hx) m ρ σ s.heap→f e σ K→Res (V.plus hx) m ρ s K Q→wpAny (model prog w) A (eval e env) Q E s):FOk {G with exe:=f,exo:=f'} prog w A V env :=
 ⟨⟨hk_gok H.v.g f f',H.v.ov,H.v.scope,H.v.kind,H.v.gl,H.v.bl,H.v.loc,H.v.cell,he⟩,H.L,H.nm⟩
inductive XI (V:Vw) (ρ:List Addr) (s:Shared) (I:List Str→St→Prop):Nat→Shared→Prop
 | mk (h':Heap) (tk:Nat) (g':GB s.gens) (m':Str→Option Value) (σ':St) (r:List Addr) (ys:List Str) (R:Rel V m' (ρ++r) σ' h') (hI:I ys σ'):XI V ρ s I ys.length ⟨h',g'.1,s.drawn,tk,s.os⟩
set_option tactic.hygienic true in
theorem cL {Gb:Gx} {t it:Expr} {b o:List Stmt} {pos:Pos} {K:Fl→St→Prop} {Q:Flow→Shared→Prop} {E:Value→Shared→Prop} (O:D.Ok) (X:(Mine.hd.heap_39 w.params).In V.h₀) (T0:Top p loose mean mg mb V.h₀) (a:AOk 0 A) {env:Env} (H:FOk G prog w A V env) (ov:V.Over (WZ (WTok w.params D)))
  (ihB:aJ5 Gb prog w A V env 40) (R:Rel V m ρ σ s.heap) (h:lxFor D Gb G t it b o σ K) (hQ:ResF V ρ s K Q):wpAny (model prog w) A (exec (.For t it b o pos) env) Q E s:=by
 refine hide fun G_ k_=>?_;(refine aA h ?_;intro x hx h)
 (refine aA h ?_;intro y hy h)
 obtain ⟨hc,I',xs,I,⟨hl,hv,h0⟩,hI,ht,hd⟩:=aL2 h;clear h;(refine aI1 hx ?_;intro px eo0;clear h hx;subst eo0)
 (refine aI1 hy ?_;intro py eo0;clear h hy;subst eo0)
 simp only [Bool.and_eq_true] at hc
 (refine aH8 hc ?_;clear hc;intro ho hdb hlc)
 obtain rfl:=aK6 ho;refine k_ ?_;have hdb:(y==ofString "__debug__")=false:=by unfold bB3 at hdb;simpa using hdb
 have hlc:G.cs.names.lookup y=some .local:=eq_of_beq hlc;have hmy:=bE7 R H.nm hl;have ⟨hw,nw,e,F,N,Pc⟩:=R.pcs;refine wpAny_For (H.v.loc y _ s m _ hw nw py _ _ Pc.hW F N ((H.nm m y).trans hmy) hlc hdb ?_);have hci:∃ oi,s.heap.get? I'=some oi∧oi.cls=.type "callable_iterator":=by
  cases aV7 ov R hv with
  | mk pre hz nw T e F N Pc ok up =>
   refine (aA0 (_) ((N (I',if T.live=true then aO7 T.q T.t else aW8) (bF3 (.head _))).1) (?_));refine (?_:(if T.live=true then aO7 T.q T.t else aW8).cls=_);split<;>rfl
 refine hide fun G_ k_=>?_;(refine aA3 hci ?_;clear hci;intro oi h1 h2)
 refine k_ ?_;refine cZ7 h1 h2 ?_;refine codeAny_forLoop_any (XI V ρ s I) ?_ xs.length (.mk s.heap s.toks (.same _) m σ [] xs R.toks h0);intro k s' hx_;refine XI.casesOn hx_ ?_;clear hx_;intro h' tk g' m' σ' r ys R' hI';have hvs:=hI _ _ hI';have z:=aV7 ov R' hvs;refine dA0 (s:=⟨h',g'.1,s.drawn,tk,s.os⟩) O X T0 (a.inA.mono (by decide) (by decide)) z (fun c r' e hcl hrl h2 tk2 t2 R2=>?_) (fun e h2 tk2 R2=>?_)
 ·clear hvs z;subst e;refine wpAny_pure (wpAny_assign_Name (aJ4 H (s:=⟨h2,g'.1,s.drawn,tk2,s.os⟩) R2 (aF5 _) (ht c r' σ' hcl hrl hI') fun m3 σ3 h3 tk3 R3 u_ k3=>?_));refine ihB b m3 σ3 _ _ ⟨h3,g'.1,s.drawn,tk3,s.os⟩ _ _ R3 k3 fun fl σ4 f m4 r4 h4 tk4 g4 R4 i4 k4=>?_;replace R4:=(append_assoc ..)▸R4;have next:again σ.obj.length (fun σ4=>∃ ys,ys.length≤r'.length∧I ys σ4) σ4→∃ mm,mm < (c::r').length∧XI V ρ s I mm ⟨h4,g4.1,s.drawn,tk4,s.os⟩:=fun k4=>by
   refine hide fun G_ k_=>?_;obtain ⟨σ5,r5,R5,ys5,hl5,hI5⟩:=aU9 H.v.gv R.len.1 R.len.2 k4 R4;refine k_ ?_;exact aA0 ys5.length (Nat.lt_succ_of_le hl5) (.mk h4 tk4 (g'.then g4) m4 σ5 r5 ys5 R5 hI5)
  cases i4 with
  | next=>exact next k4
  | cont=>exact next k4
  | brk=>exact hQ .next σ4 .next m4 (r++r4) h4 tk4 (g'.then g4) R4 .next k4
  | ret hv4=>exact hQ (.ret _) σ4 (.ret _) m4 (r++r4) h4 tk4 (g'.then g4) R4 (.ret (by refine rwb (append_assoc ..) ?_;exact hv4)) k4
 ·clear hvs z;subst e;exact wpAny_execs_nil (hQ .next _ .next m' r h2 tk2 g' R2 .next (hd σ' hI'))
theorem aX5 {α:Type} {A B B' C:List α} (h:(A++(B++C)).Nodup) (hB:B'.Nodup) (hn:∀ x∈B',x∉A∧x∉C):(A++(B'++C)).Nodup:=by
 rw [nodup_append,nodup_append] at h ⊢;refine ⟨h.1,⟨hB,h.2.1.2.1,fun x hx y hy e=>(hn x hx).2 (e▸hy)⟩,fun x hx y hy e=>?_⟩;rcases mem_append.mp hy with hy | hy
 ·exact (hn y hy).1 (e▸hx)
 ·exact h.2.2 x hx y (mem_append_right _ hy) e
theorem cU5 {α:Type} {x:α} {pre hz a b b' nw:List α} (h:x∈(pre++(hz++(a++b')))++nw):x∈b'∨x∈(pre++(hz++(a++b)))++nw:=by
 simp only [mem_append] at h ⊢
 rcases h with (h | h | h | h) | h
 ·exact .inr (.inl (.inl h))
 ·exact .inr (.inl (.inr (.inl h)))
 ·exact .inr (.inl (.inr (.inr (.inl h))))
 ·exact .inl h
 ·exact .inr (.inr h)
set_option tactic.hygienic true in
theorem cR5 {Gb:Gx→Gx} {st:Stmt} {K:Fl→St→Prop} {Q:Flow→Shared→Prop} {E:Value→Shared→Prop} (O:D.Ok) (X:(Mine.hd.heap_39 w.params).In V.h₀) (T0:Top p loose mean mg mb V.h₀) (a:AOk 0 A) (H:FOk G prog w A V (aK5 V.L)) (ov:V.Over (WZ (WTok w.params D)))
  (ihB:aJ5 (Gb G) prog w A V (aK5 V.L) 40) (R:Rel V m ρ σ s.heap) (h:lxF w.params D Gb G st σ K) (hQ:ResF V ρ s K Q):wpAny (model prog w) A (exec st (aK5 V.L)) Q E s:=by
 refine aB7 h (fun q hq h=>?_) (fun u_ h=>?_)
 ·clear h;obtain ⟨t,it,b,o,p⟩:=q;obtain rfl:=cM6 hq;exact cL O X T0 a H ov ihB R h hQ
 refine aB7 h (fun q hq h=>?_) (fun u_ h=>?_)
 ·clear h;obtain ⟨t,b,o,p3⟩:=q;clear h;obtain rfl:=cG8 hq;(refine aH8 (aL2 h) ?_;intro hc hs hK)
  replace hc:=(Bool.and_eq_true ..)▸hc;(refine aE8 hc ?_;clear hc;intro hp ho)
  clear h hq;obtain rfl:=aK6 ho;cases ha:aY4 t with
  | none =>
   have hp:bY8 t=true:=hp;unfold bY8 at hp;replace hp:=(ha ..)▸hp;cases hp
  | some r =>
   obtain ⟨oo,n,p2⟩:=r;clear ho;obtain rfl:=aV1 ha;have hp:(aE7 oo==some (ofString "self") && n==ofString "pushback")=true:=hp;replace hp:=(Bool.and_eq_true ..)▸hp;(refine aI1 (eq_of_beq hp.1) ?_;intro p1 eo0;clear ha;subst eo0)
   obtain rfl:n=_:=eq_of_beq hp.2;(refine aY5 (cA7 ov R) ?_;intro i xs z)
   cases z with
   | mk pre hz nw T e F N Pc ok up =>
    exact (a.inA.mono (d':=350) (u':=500) (by decide) (by decide)).wrun fun outer=>dC8 X T0 F (fun q hq=>N q (aT1 hq)) (bE7 R H.nm hs) fun tk=>hQ.same R .next hK tk
 ·obtain ⟨⟨hrec,hs⟩,i,xs,hv,hK⟩:=h;have hst:lxAsg w.params=some (cZ4,.Assign [.Name (ofString "fiter") ⟨136,8,136,13⟩] (.Call (.Name (ofString "iter") ⟨136,16,136,20⟩) [.Attribute (.Name (ofString "self") ⟨136,21,136,25⟩) (ofString "_read_char") ⟨136,21,136,36⟩,.Constant (.str (ofString "")) 0 ⟨136,38,136,40⟩] [] ⟨136,16,136,41⟩) ⟨136,8,136,41⟩):=by kernel_rfl
  replace hrec:=(hst ..)▸hrec;clear h;clear h;obtain rfl:=(Prod.mk.inj (Option.some.inj hrec)).2;cases aV7 ov R hv with
  | mk pre hz nw T e F N Pc ok up =>
   refine (a.inA.mono (d':=350) (u':=500) (by decide) (by decide)).wrun fun outer=>cZ1 (rest:=(pre++(hz++bO8 w.params D T i))++nw) X T0 F (fun q hq=>(mem_append.mp hq).elim (fun hq=>N q (aT1 hq)) (N q)) (bE7 R H.nm hs) fun I q t h' tk F' N' nq nI=>?_;have hnew:∀ z∈(pre++(hz++bO8 w.params D T i))++nw,z.1≠q∧z.1≠I:=fun z hz'=>⟨nq z (mem_append_right _ hz'),nI z (.tail _ (mem_append_right _ hz'))⟩;have hqI:q≠I:=nI _ (.head _);have nd:=Pc.nd;have k1:=cJ6 (hK I);refine hQ .next ((aZ σ (some I) xs).put (ofString "fiter") (.val (.ref I))) .next (fun y=>if y=ofString "fiter" then some (.ref I) else m y) [] h' tk (.same _) (Rel.toks ⟨pre++(hz++bO8 w.params D ⟨q,t,true,T.ln,T.tl,T.vs,T.n⟩ (some I)),nw,e,F',fun z hz'=>?_,up ⟨q,t,true,T.ln,T.tl,T.vs,T.n⟩ (some I) xs ⟨(fun z=>nomatch z),ok.st,ok.n,ok.h1,ok.l0,ok.l1⟩,?_,Pc.len,Pc.ob,fun y b hb=>?_,Pc.ce⟩) .next k1
   ·rcases cU5 (b:=aZ6 D T.q T.t T.live i) hz' with hz' | hz'
    ·rcases mem_cons.mp hz' with rfl | hz'
     ·exact N' _ (.head _)
     ·refine rwg (mem_singleton.mp hz' ..) ?_;exact N' _ (.tail _ (.head _))
    ·exact N' z (.tail _ (.tail _ (mem_append_right _ hz')))
   ·have key:∀ b:List (Addr × Obj),((pre++(hz++(D.all w.params T.ln T.tl T.vs T.n++b)))++nw).map (·.1)=(pre++(hz++D.all w.params T.ln T.tl T.vs T.n)).map (·.1)++(b.map (·.1)++nw.map (·.1)):=fun b=>by simp only [map_append,append_assoc]
    refine (?_:(((pre++(hz++(D.all w.params T.ln T.tl T.vs T.n++aZ6 D q t true (some I))))++nw).map (·.1)).Nodup);rw [key] at nd ⊢;refine aX5 nd ?_ fun x hx=>?_
    ·refine (?_:[I,q].Nodup);exact nodup_cons.mpr ⟨fun hm=>hqI (mem_singleton.mp hm).symm,nodup_cons.mpr ⟨not_mem_nil,nodup_nil⟩⟩
    ·have hx:x∈[I,q]:=hx;have hxo:∀ z∈(pre++(hz++bO8 w.params D T i))++nw,z.1≠x:=fun z hz'=>by
      clear F' N' nI hqI k1;rcases mem_cons.mp hx with rfl | hx
      ·exact (hnew z hz').2
      ·refine rwg (mem_singleton.mp hx ..) ?_;exact (hnew z hz').1
     refine ⟨fun hm=>?_,fun hm=>?_⟩
     ·(refine aA6 hm ?_;intro z hz' e')
      refine hxo z (mem_append_left _ ?_) e';rcases mem_append.mp hz' with q | q
      ·exact mem_append_left _ q
      rcases mem_append.mp q with q | q
      ·exact mem_append_right _ (mem_append_left _ q)
      ·exact mem_append_right _ (mem_append_right _ (mem_append_left _ q))
     ·(refine aA6 hm ?_;intro z hz' e')
      exact hxo z (mem_append_right _ hz') e'
   ·have hb:(cS7 σ.loc (ofString "fiter") (.val (.ref I))).lookup y=some b:=hb;replace hb:=(aP5 ..)▸hb;refine rwg (H.nm ..) ?_;by_cases hy:y=ofString "fiter"
    ·replace hb:=(if_pos (beq_iff_eq.mpr hy) ..)▸hb;cases hb
     exact (aA0 (_) (if_pos hy) (rfl))
    ·replace hb:=(if_neg (fun q=>hy (beq_iff_eq.mp q)) ..)▸hb;(refine aA3 (Pc.lo y b hb) ?_;intro v hv' hi)
     replace hv':=(H.nm ..)▸hv';exact (aA0 (v) ((if_neg hy).trans hv') (hi))
theorem lxG_ok (O:D.Ok) (X:(Mine.hd.heap_39 w.params).In V.h₀) (T0:Top p loose mean mg mb V.h₀) (a:AOk 0 A) (H:FOk G prog w A V (aK5 V.L)) (ov:V.Over (WZ (WTok w.params D))):∀ k,FOk (lxG w.params D k G) prog w A V (aK5 V.L)∧XOk (lxG w.params D k G) prog w A V (aK5 V.L):=by
 have he:∀ (hx:List (Addr × Obj)) (e:Expr) (m:Str→Option Value) (σ:St) (K:AV→St→Prop) (ρ:List Addr) (s:Shared) (Q:Value→Shared→Prop) (E:Value→Shared→Prop),Rel (V.plus hx) m ρ σ s.heap→lxE D G e σ K→Res (V.plus hx) m ρ s K Q→wpAny (model prog w) A (eval e (aK5 V.L)) Q E s :=
  fun hx e m σ K ρ s Q E R h hQ=>cR0 (V:=V.plus hx) X T0 a (ov.plus hx) R H.nm h hQ
 intro k
 induction k with
 | zero=>exact ⟨cT0 H _ _ he,fun u_ u_ u_ u_ u_ u_ u_ u_ u_ u_ h=>h.elim⟩
 | succ k ih =>
  refine ⟨cT0 H _ _ he,fun hx st m σ K ρ s Q E R h hQ=>?_⟩;exact cR5 (V:=V.plus hx) O X T0 a (H.plus hx) (ov.plus hx) (bW5 ih.1 ih.2 40 hx) R h hQ
end
theorem bO0 {prog:Program} {w:World} {h₀:Heap} {f:Addr} {o:Obj} {fd:FuncData} (e:h₀.get? f=some o) (hd:o.data=.func fd):aR2 (model prog w) h₀ (.ref f):=fun h hk=>cP3 (hk _ _ e) hd
theorem lxU_ok {prog:Program} {w:World} {p:Program} {loose:List Str} {mean:ExcName→Option Value} {mg mb:Str→Option Value} {D:LexD} (O:D.Ok):UOk (lxU w.params D) prog w (fun h=>(Mine.hd.heap_39 w.params).In h∧Top p loose mean mg mb h) 0 where
 keeps:=fun h h' x k=>⟨x.1.keeps k,x.2.keeps k⟩
 inn:=fun h x=>x.1
 nolim:=fun h x=>x.2.nolimit
 glob:=fun u_ u_ u_ u_ u_ u_ u_ u_ u_ u_ u_ u_ u_ u_ u_ h=>nomatch h
 tab:=fun u_ u_ u_ u_ u_ h=>nomatch h
 fz:=WZ.fz
 frz:=WZ.frz
 fn:=fun u_ u_ u_ h=>nomatch h
 vmeth:=fun A V m σ b nm g ρ s pl Q E a x ov R h hq=>by
  have h:(match b==D.Xa && nm==ofString "_read_char" with
   | true=>some (130:Addr)
   | false=>none)=some g:=h
  cases hc:b==D.Xa && nm==ofString "_read_char" with
  | false=>replace h:=(hc ..)▸h;cases h
  | true =>
   replace h:=(hc ..)▸h;obtain rfl:=Option.some.inj h;replace hc:=(Bool.and_eq_true ..)▸hc;clear h;clear h;obtain rfl:b=D.Xa:=eq_of_beq hc.1;(refine aY5 (cA7 ov R) ?_;intro i xs z)
   cases z with
   | mk pre hz nw T e F N Pc ok up =>
    refine bZ9 (D:=D) x.1 x.2 F (fun q hq=>N q (aT1 hq)) (.inl ⟨eq_of_beq hc.2,rfl⟩) (hq ?_);(refine aG9 (dD0 x.1) ?_;intro o fd ho hd)
    exact bO0 ho hd
 prim:=fun A base V m g as σ K vs ρ s Q E a x b ov R i hp h hQ=>by
  clear hp;obtain ⟨⟨rfl,rfl⟩,j,xs,hv,hK⟩:=h;(refine aA3 (i.one) ?_;intro _ eo0 iv;clear i;subst eo0)
  obtain rfl:_=Value.ref D.Xa:=iv;exact wpAny_call (cX5 O x.1 x.2 (a.inA.mono (by decide) (by decide)) (aV7 ov R hv) fun h' tk' t' R'=>hQ _ _ _ [] h' tk' (.same _) R'.toks (aF5 _) hK)
 exe:=fun f fd hf A G V e m σ K ρ s Q E a x H hW R h hQ=>by
  have h:(match f==137 with
   | true=>lxHk w.params D
   | false=>dA9).exe G e σ K:=h
  cases hc:f==137 with
  | false=>replace h:=(hc ..)▸h;exact h.elim
  | true =>
   replace h:=(hc ..)▸h;obtain rfl:f=137:=eq_of_beq hc;have en:=bJ2 (L:=V.L) hf;refine rwg (en ..) ?_;have ov:=H.v.ov;replace ov:=(hW ..)▸ov;exact cR0 (G:=G) x.1 x.2 a ov R H.nm h hQ
 exo:=fun f fd hf A G V st m σ K ρ s Q E a x H u_ hW R h hQ=>by
  have h:(match f==137 with
   | true=>lxHk w.params D
   | false=>dA9).exo G st σ K:=h
  cases hc:f==137 with
  | false=>replace h:=(hc ..)▸h;exact h.elim
  | true =>
   replace h:=(hc ..)▸h;obtain rfl:f=137:=eq_of_beq hc;have en:=bJ2 (L:=V.L) hf;rw [en] at H ⊢;have ov:=H.v.ov;replace ov:=(hW ..)▸ov;have g:=lxG_ok O x.1 x.2 a H ov 1;have B:=bW5 g.1 g.2 40 [];replace B:=(Vw.plus_nil ..)▸B;exact cR5 O x.1 x.2 a H ov B R h hQ
theorem in137 (P:Params):InfoOk P 137 cZ4 [ofString "self"]:=⟨by kernel_rfl,by kernel_rfl,by kernel_rfl,all1 fun a=>by kernel_rfl⟩
noncomputable def tkS (D:LexD) (a:Addr) (fz:Addr→Option AO) (acc:Str) (ys:List Str):St:=⟨[(ofString "self",.val (.ref D.Xa)),(ofString "token",.str acc),(ofString "fiter",.val (.ref a))],[],⟨aU7 (some a) ys,fz⟩⟩
noncomputable def tkS2 (D:LexD) (a:Addr) (fz:Addr→Option AO) (acc:Str) (ch:AV) (ys:List Str):St:=⟨[(ofString "self",.val (.ref D.Xa)),(ofString "token",.str acc),(ofString "fiter",.val (.ref a)),(ofString "ch",ch)],[],⟨aU7 (some a) ys,fz⟩⟩
noncomputable def tkI (D:LexD) (a:Addr) (fz:Addr→Option AO) (g:Str × List Str) (ys:List Str) (τ:St):Prop:=∃ acc,τ=tkS D a fz acc ys∧(acc=ofString ""∧aA9 ys=g∨ys=[]∧g=(acc,[]))∧(∀ y∈ys,y.length=1)∧ys.length≤1000∧acc.length≤1000
noncomputable def tkI2 (D:LexD) (a:Addr) (fz:Addr→Option AO) (f:List Str→Str→Str × List Str) (g:Str × List Str) (ys:List Str) (τ:St):Prop:=∃ acc ch,τ=tkS2 D a fz acc ch ys∧f ys acc=g∧acc.length + ys.length≤1000∧∀ y∈ys,y.length=1
theorem cY0 {P:Params} {D:LexD} {wd:Wd}:(lxU P D).vmeth wd D.Xa (ofString "_read_char")=some 130:=by
 show (match D.Xa==D.Xa && _ with | true=>some (130:Addr) | false=>none)=_
 rw [beq_self_eq_true];rfl
theorem aW9 {P:Params} {D:LexD} {base:List AO} {σ:St} {K:AV→St→Prop} {a:Addr} {xs:List Str} (hv:σ.wd.v=aU7 (some a) xs) (hK:K (.str (xs.headD (ofString ""))) (aZ σ (some a) xs.tail)):aG6 (aF4 (lxU P D) 0 base (.ref 130) [.val (.ref D.Xa)] σ K):=bB0 ⟨⟨rfl,rfl⟩,some a,xs,hv,hK⟩
theorem bL7 {K:AV→St→Prop} {σ:St} {a:Addr} {acc:Str} {r:List Str} {g:Str × List Str} (hK:∀ j,K (.str g.1) ⟨σ.loc,σ.obj,⟨aU7 j g.2,σ.wd.fz⟩⟩) (h:g=(acc,r)):K (.str acc) ⟨σ.loc,σ.obj,⟨aU7 (some a) r,σ.wd.fz⟩⟩:=by
 subst h;exact hK _
noncomputable def cJ4:List Str:=[ofString "self",ofString "token",ofString "fiter"]
theorem cP1 {P:Params} {D:LexD} {base:List AO} {σ:St} {K:AV→St→Prop} {i:Option Addr} {xs:List Str} (hv:σ.wd.v=aU7 i xs) (h1:∀ y∈xs,y.length=1) (hn:xs.length≤1000)
  (hK:∀ j,K (.str (aA9 xs).1) ⟨σ.loc,σ.obj,⟨aU7 j (aA9 xs).2,σ.wd.fz⟩⟩):aG6 (aF4 (lxU P D) 1 base (.ref 137) [.val (.ref D.Xa)] σ K):=by
 refine aX9 (in137 P) rfl rfl rfl [] [.val (.ref D.Xa)] [] [] [(ofString "self",.val (.ref D.Xa))] [] rfl (fun u_ hp=>nomatch hp) rfl rfl rfl rfl ?_;refine And.intro (by exact rfl) ?_;refine ⟨⟨by with_unfolding_all rfl,rfl⟩,i,xs,hv,fun a=>?_⟩;refine (?_:∃ _,_);refine ⟨a,xs,tkI D a σ.wd.fz (aA9 xs),⟨rfl,rfl,_,rfl,.inl ⟨rfl,rfl⟩,h1,hn,by decide +kernel⟩,?_,?_,?_⟩
 ·rintro ys τ ⟨acc,rfl,_⟩;rfl
 ·rintro c r τ hc hr ⟨acc,rfl,hg,hl,hrl,hal⟩;refine aY8 (aC2 _ _ _) ?_;intro X hX;have hr1:∀ y∈r,y.length=1:=fun y hy=>hl y (.tail _ hy);obtain ⟨rfl,hg2⟩:acc=ofString ""∧aA9 (c::r)=aA9 xs:=hg.resolve_right fun q=>nomatch q.1
  have h0:(ofString "").length=0:=by decide +kernel
  rw [length_cons] at hrl;have hh:=bE5 hr1;refine have kP:∀ (ac:Str) (ch:AV) (rs:List Str),aG rs ac=aA9 xs→ac.length + rs.length≤1000→(∀ y∈rs,y.length=1)→(?T:Str→AV→List Str→Prop) ac ch rs:=?pP;?main
  case main =>
   refine And.intro (by exact rfl) ?_;refine aA8 (fun hb200=>?_) (fun hb200=>?_)
   ·conv=>whnf
    have hq:aA9 r=aA9 xs:=by rw [← hg2,aA9,show Txt.contains wsS c=true from hb200];rfl
    apply hX;exact .ren cJ4 [] (tkS D a σ.wd.fz (ofString "") r) rfl rfl ⟨r,le_refl _,_,rfl,.inl ⟨rfl,hq⟩,hr1,hr,hal⟩
   ·refine aA8 (fun hb201=>?_) (fun hb201=>?_)
    ·refine (?_:∃ _,_);have hb:Txt.contains wsS c=false:=hb200;have hq:aI3 r (ofString "")=aA9 xs:=by rw [← hg2,aA9,hb,hb201];rfl
     refine ⟨a,r,tkI2 D a σ.wd.fz aI3 (aA9 xs),⟨rfl,rfl,_,_,rfl,hq,by (clear hb200 hb201 hb hq;lia),hr1⟩,?_,?_,?_⟩
     ·rintro ys τ ⟨acc,ch,rfl,_⟩;rfl
     ·rintro c2 r2 τ hcl2 hr2 ⟨acc,ch,rfl,hf,hal,hl2⟩;refine aY8 (aC2 _ _ _) ?_;intro Y hY;have hr3:∀ y∈r2,y.length=1:=fun y hy=>hl2 y (.tail _ hy);rw [length_cons] at hal;have hh:=bE5 hr3;refine aA8 (fun hb300=>?_) (fun hb300=>?_)
      ·apply hY;apply hX
       refine (?_:∃ _,_);exact aG3 rfl (bL7 (r:=r2) hK (hf.symm.trans (bK0 hb300)))
      ·refine aA8 (fun hb301=>?_) (fun hb301=>?_)
       ·refine (?_:aB4 _ _);refine aM9 (cY0 (P:=P) (wd:=σ.wd)) ?_;refine aH ?_;refine aW9 (a:=a) (xs:=r2) rfl ?_;refine And.intro (by rw [sizeLine_eq];(clear hb200 hb201 hb hq hcl2 hr2 hf hb300 hb301;lia)) ?_;refine (?_:aB4 _ _);apply hY;exact .here ⟨r2.tail,by rw [List.length_tail];exact Nat.sub_le _ _,_,_,rfl,(bK1 hb300 hb301).symm.trans hf,by rw [Str.length_append];(clear hb200 hb201 hb hq hcl2 hr2 hf hb300 hb301;lia),fun y hy=>hr3 y (List.mem_of_mem_tail hy)⟩
       ·refine And.intro (by rw [sizeLine_eq];(clear hb200 hb201 hb hq hr2 hf hh hb300 hb301;lia)) ?_;refine (?_:aB4 _ _);apply hY;exact .here ⟨r2,le_refl _,_,_,rfl,(aU0 hb300 hb301).symm.trans hf,by rw [Str.length_append];(clear hb200 hb201 hb hq hr2 hf hh hb300 hb301;lia),hr3⟩
     ·rintro τ ⟨acc,ch,rfl,hf,hal,_⟩;apply hX;exact .ren cJ4 [] (tkS D a σ.wd.fz acc []) rfl rfl ⟨[],zero_le _,_,rfl,.inr ⟨rfl,hf.symm⟩,(fun y hy=>nomatch hy),zero_le _,by simpa using hal⟩
    ·refine aA8 (fun hb202=>?_) (fun hb202=>?_)
     ·refine (?_:aB4 _ _);refine aM9 (cY0 (P:=P) (wd:=σ.wd)) ?_;refine aH ?_;refine aW9 (a:=a) (xs:=r) rfl ?_;refine And.intro (by rw [sizeLine_eq];(clear hb200 hb201 hb202;lia)) ?_;refine (?_:aB4 _ _);have hb:Txt.contains wsS c=false:=hb200;have hq:aG r.tail (ofString ""++r.headD (ofString ""))=aA9 xs:=by rw [← hg2,aA9,hb,hb201,hb202];rfl
      have hz:(ofString ""++r.headD (ofString "")).length + r.tail.length≤1000:=by rw [Str.length_append];(clear hb200 hb201 hb202 hb hq;lia)
      have hy1:∀ y∈r.tail,y.length=1:=fun y hy=>hr1 y (List.mem_of_mem_tail hy);generalize ofString ""++r.headD (ofString "")=ac at hq hz ⊢;generalize AV.str (r.headD (ofString ""))=ch;generalize r.tail=rs at hq hz hy1 ⊢;exact kP ac ch rs hq hz hy1
     ·refine And.intro (by rw [sizeLine_eq];lia) ?_;refine (?_:aB4 _ _);have hb:Txt.contains wsS c=false:=hb200;have hq:aG r (ofString ""++c)=aA9 xs:=by rw [← hg2,aA9,hb,hb201,hb202];rfl
      exact kP _ _ _ hq (by rw [Str.length_append];(clear hv hn hr hg2 hg hal hh hb200 hb201 hb202 hb hq;lia)) hr1
  case pP =>
   intro ac ch rs hq hz hy1;refine ⟨a,rs,tkI2 D a σ.wd.fz aG (aA9 xs),⟨rfl,rfl,_,_,rfl,hq,hz,hy1⟩,?_,?_,?_⟩
   ·rintro ys τ ⟨acc,ch,rfl,_⟩;rfl
   ·rintro c2 r2 τ hcl2 hr2 ⟨acc,ch,rfl,hf,hal,hl2⟩;refine aY8 (aC2 _ _ _) ?_;intro Y hY;have hr3:∀ y∈r2,y.length=1:=fun y hy=>hl2 y (.tail _ hy);rw [length_cons] at hal;have hh:=bE5 hr3;refine And.intro (by exact rfl) ?_;refine aA8 (fun hb400=>?_) (fun hb400=>?_)
    ·apply hY;apply hX
     refine (?_:∃ _,_);exact aG3 rfl (bL7 (r:=r2) hK (hf.symm.trans (bI3 hb400)))
    ·refine aA8 (fun hb401=>?_) (fun hb401=>?_)
     ·refine (?_:aB4 _ _);refine aM9 (cY0 (P:=P) (wd:=σ.wd)) ?_;refine aH ?_;refine aW9 (a:=a) (xs:=r2) rfl ?_;refine And.intro (by rw [sizeLine_eq];(clear hv hn hc hr hrl hg2 hg h0 hq hz hcl2 hr2 hf hb400 hb401;lia)) ?_;refine (?_:aB4 _ _);apply hY;exact .here ⟨r2.tail,by rw [List.length_tail];exact Nat.sub_le _ _,_,_,rfl,(bJ0 hb400 hb401).symm.trans hf,by rw [Str.length_append];(clear hv hn hc hr hrl hg2 hg h0 hq hz hcl2 hr2 hf hb400 hb401;lia),fun y hy=>hr3 y (List.mem_of_mem_tail hy)⟩
     ·refine And.intro (by rw [sizeLine_eq];(clear hv hn hc hr hrl hg2 hg h0 hq hz hr2 hf hh hb400 hb401;lia)) ?_;refine (?_:aB4 _ _);apply hY;exact .here ⟨r2,le_refl _,_,_,rfl,(aU1 hb400 hb401).symm.trans hf,by rw [Str.length_append];(clear hv hn hc hr hrl hg2 hg h0 hq hz hr2 hf hh hb400 hb401;lia),hr3⟩
   ·rintro τ ⟨acc,ch,rfl,hf,hal,_⟩;apply hX;exact .ren cJ4 [] (tkS D a σ.wd.fz acc []) rfl rfl ⟨[],zero_le _,_,rfl,.inr ⟨rfl,hf.symm⟩,(fun y hy=>nomatch hy),zero_le _,by simpa using hal⟩
 ·rintro τ ⟨acc,rfl,hg,_⟩;have hq:aA9 xs=(acc,[]):=hg.elim (fun q=>by clear hg;(refine aE8 q ?_;clear q;intro eo0 q;subst eo0);exact q.symm) fun q=>q.2;exact aG3 rfl (bL7 hK hq)
noncomputable abbrev noS (h:Heap):Heap:=hideAll h [170]
theorem cT2 {h h₁:Heap} {L:Addr} {m:Str→Option Value} {ps:Array Value} {news:List (Addr × Obj)} (F0:Fr h L h₁ m) (N0:News h L h₁ news) (hP:h.get? 170=some (tabObj ps)):Fr (noS h) L h₁ m∧News (noS h) L h₁ (news++[(170,tabObj ps)])∧(@LT.lt Nat _ (170:Addr) L):=by
 have h1:h.objs.size≤L:=F0.above;have h2:170 < h.objs.size:=Heap.lt_size hP;refine ⟨⟨F0.ns,fun b o e=>F0.keep b o (of_hideAll _ e),by refine rwg (hideAll_size ..) ?_;exact F0.above⟩,fun q hq=>?_,lt_of_lt_of_le h2 h1⟩;rcases mem_append.mp hq with hq | hq
 ·refine ⟨(N0 q hq).1,(N0 q hq).2.1,?_⟩;cases e:(noS h).get? q.1 with
  | none=>rfl
  | some o=>have:=of_hideAll _ e;replace this:=((N0 q hq).2.2)▸this;cases this
 ·obtain rfl:=mem_singleton.mp hq;refine ⟨F0.keep _ _ hP,fun e=>?_,hideAll_none _ (.head _)⟩;have e:(170:Nat)=L:=e;(clear hP;lia)
theorem bA9 {prog:Program} {w:World} {A:Around} {E:Value→Shared→Prop} {s:Shared} {h₀:Heap} {L:Addr} {m:Str→Option Value} {x:Str} {t:Tok} {news:List (Addr × Obj)} {Q:Value→Shared→Prop}
  (hh:A.handled=none) (hlen:x.length≤1000) (F:Fr h₀ L s.heap m) (N:News h₀ L s.heap news)
  (hQ:∀ h' tk' D ys n,Fr h₀ L h' m→News h₀ L h' ((D,({cls:=.type "list",data:=.seq (toArray ys) n}:Obj))::news)→StrsAre ys (signs x)→(∀ p∈news,p.1 < D)→Q (.ref D) {s with heap:=h',toks:=tk'}) :
  wpAny (model prog w) A (call (.type "list") [.str x t]) Q E s:=by
 refine list_strD hh F N (hsz:=by refine rwg (sizeLine_eq ..) ?_;(clear hh;lia)) ?_;intro h' tk ys F' N' hk hD hl hp hc;(refine aE8 hp ?_;clear hp;intro no0 ho;obtain ⟨n,e⟩:=no0)
 refine hQ h' tk s.heap.objs.size ys n F' (fun p hp=>?_) (StrsAre.ofCarried hc) (fun p hp=>Heap.lt_size (N p hp).1);rcases mem_cons.mp hp with rfl | hp
 ·exact ⟨e,ne_of_gt F.ns.lt,hD⟩
 ·exact N' p hp
theorem bB2 {prog:Program} {w:World} {A:Around} {E:Value→Shared→Prop} {s:Shared} {h₀:Heap} {L f0:Addr} {fd:FuncData} {v:Value} {m:Str→Option Value} {news:List (Addr × Obj)} {g:Obj→List (Addr × Obj)} {Q:Unit→Shared→Prop}
 (F:Fr h₀ L s.heap m) (N:News h₀ L s.heap news) (U:UpdF f0 ⟨.type "function",none,.func fd,#[]⟩ news g)
 (hQ:∀ d oD h' tk',aZ2 oD v→Fr h₀ L h' m→News h₀ L h' ((d,oD)::g ⟨.type "function",some d,.func fd,#[]⟩)→(∀ p∈news,p.1 < d)→Q () {s with heap:=h',toks:=tk'}):wpAny (model prog w) A (setAttr (.ref f0) (ofString "read") v) Q E s:=by
 refine hide fun G_ k_=>?_;(refine aR (U.split) ?_;intro pre post e1 e2 e3 e4)
 refine k_ ?_;have hm:(f0,(⟨.type "function",none,.func fd,#[]⟩:Obj))∈news:=by refine rwg (e1 ..) ?_;exact mem_append_right _ (.head _)
 have hf:=N _ hm;refine cP7 hf.1 fun d oD h' tk' hd hoD hD hf0 hk=>?_;have hLs:L < s.heap.objs.size:=F.ns.lt;have hd0:h₀.get? d=none:=by refine rwg (hd ..) ?_;exact next_is_new F
 refine hQ d oD h' tk' hD ⟨F.ns.at' fun o e=>hk L o (Ne.symm hf.2.1) e,fun b o e=>hk b o (fun q=>by (replace e:=(q ..)▸e;replace e:=(hf.2.2 ..)▸e);cases e) (F.keep b o e),F.above⟩ (fun q hq=>?_) (fun q hq=>by refine rwg (hd ..) ?_;exact Heap.lt_size (N q hq).1);have other:∀ q∈news,q.1≠f0→h'.get? q.1=some q.2∧q.1≠L∧h₀.get? q.1=none:=fun q hq hne=>⟨hk _ _ hne (N q hq).1,(N q hq).2⟩;rcases mem_cons.mp hq with rfl | hq
 ·exact ⟨hoD,fun e=>by replace e:=(hd ..)▸e;exact absurd e.symm (ne_of_lt hLs),hd0⟩
 ·replace hq:=(e2 ..)▸hq;rcases mem_append.mp hq with hq | hq
  ·exact other q (by refine rwg (e1 ..) ?_;exact mem_append_left _ hq) (e3 _ hq)
  ·rcases mem_cons.mp hq with rfl | hq
   ·exact ⟨hf0,hf.2⟩
   ·exact other q (by refine rwg (e1 ..) ?_;exact mem_append_right _ (.tail _ hq)) (e4 _ hq)
structure StreamSt (base:Heap) (sz:Nat) (h':Heap) (f0 d f1 cc S c0 c1:Addr) (oD oC oc1:Obj) (fd0:FuncData) (q:Str) (pm ct:Value) (vs:List Value) (n:Nat) (xs:List Str):Prop where
 f0o:h'.get? f0=some ⟨.type "function",some d,.func fd0,#[]⟩
 do_:h'.get? d=some oD
 fn:aZ2 oD (.ref f1)
 f1o:h'.get? f1=some (aX8 q cc pm c1 ct)
 c1o:h'.get? c1=some oc1
 c1d:∃ vs1 t1,oc1.data=.fields vs1∧vs1[1]?=some (.str q t1)
 cco:h'.get? cc=some oC
 ccd:oC.data=.cell (some (.ref S))
 So:h'.get? S=some (bF7 vs n)
 chs:StrsAre vs xs
 tab:h'.get? 170=some (tabObj #[rawInt 179,rawInt 33,.ref c0,rawInt 180,rawInt 18,.ref c1])
 new:∀ a∈[f0,d,f1,cc,S],base.get? a=none
 ord:(@LT.lt Nat _ 170 cc)∧(@LT.lt Nat _ sz cc)∧(@LT.lt Nat _ cc S)∧(@LT.lt Nat _ S f0)∧(@LT.lt Nat _ f0 f1)∧(@LT.lt Nat _ f1 d)
theorem cE2 {prog:Program} {w:World} {p:Program} {loose:List Str} {mean:ExcName→Option Value} {mg mb:Str→Option Value} {outer:List Env} {s:Shared} {R:Result→Shared→Prop}
 {text:Str} {tt:Tok}
 (X:(Mine.hd.heap_39 w.params).In (noS s.heap)) (T:Top p loose mean mg mb (noS s.heap)) (C:CodeHd (noS s.heap) 174 170) (hP:s.heap.get? 170=some (tabObj #[])) (hlen:text.length≤1000)
 (hR:∀ h' tk' f0 d f1 cc S c0 c1 oD oC oc1 fd0 pm ct vs n,(∀ b o,(noS s.heap).get? b=some o→h'.get? b=some o)→StreamSt (noS s.heap) s.heap.objs.size h' f0 d f1 cc S c0 c1 oD oC oc1 fd0 (ofString "_law_stream"++ofString ".<locals>."++ofString "<lambda>") pm ct vs n (signs text)→(noS s.heap).get? c1=none→(@LT.lt Nat _ f0 c1)→(@LT.lt Nat _ c1 f1) →
  R (.ok (.ret (.ref f0))) {s with heap:=h',toks:=tk'}) :
 codeAny (model prog w) (cA 450 800 outer) (.call (.ref 175) ⟨[.str text tt],[]⟩) R s:=by
 have X':(Mine.hd.heap_39 w.params).In s.heap:=X.keeps fun b o e=>of_hideAll _ e;have T':Top p loose mean mg mb s.heap:=T.keeps fun b o e=>of_hideAll _ e
 first | (k_dflt (refine' bY7 ?k3 ?k5 ?k6 ?k7 ?k8 ?k9 ?kB ?_ ?c2 ?c3 ?c4 ?c5;(case k3=>k_asm);(case k5=>k_asm);(case k6=>k_is);(case k7=>k_is);(case k8=>k_room);(case k9=>exact BindsTo.of_eq rfl);(case c5=>decide);(case kB=>exact locs rfl);(case c2=>exact rfl);(case c3=>exact rfl);(case c4=>exact rfl);k_whole)) | (k_dflt (refine' cQ9 ?k3 ?k5 ?k6 ?k7 ?k8 ?k9 ?kB ?kD ?_ ?c2 ?c3 ?c4;(case k3=>k_asm);(case k5=>k_asm);(case k6=>k_is);(case k7=>k_is);(case k8=>k_room);(case k9=>exact BindsTo.of_eq rfl);(case kB=>exact rfl);(case kD=>decide +kernel);(case c2=>exact rfl);(case c3=>exact rfl);(case c4=>exact rfl);k_whole))
 clear X' T';intro L h tk' cells F0 N0 Y
 k_cells Y
 try simp only [cons_append,nil_append] at N0
 (refine aH8 (cT2 F0 N0 hP) ?_;intro F N h170)
 clear F0 N0
 try simp only [cons_append,nil_append] at N
 try dsimp only
 repeat (law_purse 400000=>((fail_if_success (with_reducible show wpAny _ _ (call (Value.type "list") _) _ _ _));(first | (k_unfold;(try dsimp only)) | walk1 | (dsimp only;walk1) | (leave1;walk_say "STEP leave1";try dsimp only))))
 refine bA9 rfl hlen F N ?_;clear F N;intro h1 tk1 S ys nS F N hys hlS
 k_lt hlS
 repeat (law_purse 400000=>((fail_if_success (with_reducible show wpAny _ _ (eval (Expr.Lambda _ _ _ _) _) _ _ _));(first | (k_unfold;(try dsimp only)) | walk1 | (dsimp only;walk1) | (leave1;walk_say "STEP leave1";try dsimp only))))
 k_dflt (refine' kla_eval ?d0 ?_;(case d0=>exact rfl))
 k_dflt (refine' kla_nest (ps:=#[]) ?F ?N ?T ?C ?cd ?U ?t ?n ?cl ?_;(case F=>k_asm);(case N=>k_asm);(case T=>exact T);(case cd=>exact rfl);(case C=>exact C);(case U=>k_updF);(case t=>trivial);(case n=>rfl);(case cl=>exact rfl))
 intro f0 c0 oc0 vs0 t0 ct0 h2 tk2 F2 N2 d01 d02 l01 l02;clear F N;(try dsimp only at N2)
 k_lt l01
 k_lt2 l02
 repeat (law_purse 400000=>((fail_if_success (with_reducible show wpAny _ _ (eval (Expr.Lambda _ _ _ _) _) _ _ _));(first | (k_unfold;(try dsimp only)) | walk1 | (dsimp only;walk1) | (leave1;walk_say "STEP leave1";try dsimp only))))
 repeat (law_purse 400000=>((fail_if_success (with_reducible show wpAny _ _ (eval (Expr.Lambda _ _ _ _) _) _ _ _));(first | (k_unfold;(try dsimp only)) | walk1 | (dsimp only;walk1) | (leave1;walk_say "STEP leave1";try dsimp only))))
 k_dflt (refine' kla_eval ?d1 ?_;(case d1=>exact rfl))
 k_dflt (refine' kla_nest ?F ?N ?T ?C ?cd ?U ?t ?n ?cl ?_;(case F=>k_asm);(case N=>k_asm);(case T=>exact T);(case cd=>exact rfl);(case C=>exact C);(case U=>k_updF);(case t=>trivial);(case n=>rfl);(case cl=>exact rfl))
 intro f1 c1 oc1 vs1 t1 ct1 h3 tk3 F3 N3 d11 d12 l11 l12;(try dsimp only at N3)
 k_lt l11
 k_lt2 l12
 repeat (law_purse 400000=>((fail_if_success (with_reducible show wpAny _ _ (setAttr _ _ _) _ _ _));(first | (k_unfold;(try dsimp only)) | walk1 | (dsimp only;walk1) | (leave1;walk_say "STEP leave1";try dsimp only))))
 k_dflt (refine' bB2 ?F ?N ?U ?_;(case F=>k_asm);(case N=>k_asm);(case U=>k_updF))
 intro d oD h4 tk4 hD F4 N4 hld
 k_lt hld
 (try dsimp only at N4)
 clear F3 N3
 repeat (law_purse 400000=>((first | (k_unfold;(try dsimp only)) | walk1 | (dsimp only;walk1) | (leave1;walk_say "STEP leave1";try dsimp only))))
 have hsz:@LE.le Nat _ s.heap.objs.size L:=by have:=F4.above;rw [hideAll_size] at this;exact this
 refine hR h4 _ f0 d f1 (L + 1) S c0 c1 oD _ oc1 _ _ _ ys nS F4.keep ⟨(N4 (f0,_) (by k_mem)).1,(N4 (d,oD) (by k_mem)).1,hD,(N4 (f1,_) (by k_mem)).1,(N4 (c1,oc1) (by k_mem)).1,⟨vs1,t1,d11,d12⟩,(N4 (L + 1,_) (by k_mem)).1,by assumption,(N4 (S,_) (by k_mem)).1,hys,(N4 (170,_) (by k_mem)).1,?new,?ord⟩ (N4 (c1,oc1) (by k_mem)).2.2 ?a ?b
 case new =>
  intro a ha;simp only [mem_cons,not_mem_nil,or_false] at ha
  rcases ha with q | q | q | q | q<;>refine rwg (q ..) ?_
  ·exact (N4 (f0,_) (by k_mem)).2.2
  ·exact (N4 (d,oD) (by k_mem)).2.2
  ·exact (N4 (f1,_) (by k_mem)).2.2
  ·exact (N4 (L + 1,_) (by k_mem)).2.2
  ·exact (N4 (S,_) (by k_mem)).2.2
 case ord=>exact ⟨by (clear hP hlen hlS d01 d02 l01 l02 d11 d12 l11 l12 hld hsz;lia),by (clear hP hlen h170 hlS d01 d02 l01 l02 d11 d12 l11 l12 hld;lia),by (clear hP hlen h170 d01 d02 l01 l02 d11 d12 l11 l12 hld hsz;lia),by (clear hP hlen h170 hlS d01 d02 d11 d12 l11 l12 hld hsz;lia),by (clear hP hlen h170 hlS d01 d02 l01 l02 d11 d12 hld hsz;omega),by (clear hP hlen h170 hlS d01 d02 l01 l02 d11 d12 l11 l12 hsz;omega)⟩
 case a=>(clear hP hlen h170 hlS d01 d02 l01 l02 d11 d12 l12 hld hsz;omega)
 case b=>(clear hP hlen h170 hlS d01 d02 l01 l02 d11 d12 l11 hld hsz;lia)
theorem bZ5 {prog:Program} {w:World} {p:Program} {loose:List Str} {mean:ExcName→Option Value} {mg mb:Str→Option Value} {outer:List Env} {s:Shared} {R:Result→Shared→Prop}
 {text:Str} {tt:Tok} {c0 c1:Addr}
 (X:(Mine.hd.heap_39 w.params).In (noS s.heap)) (T:Top p loose mean mg mb (noS s.heap)) (C:CodeHd (noS s.heap) 174 170) (hP:s.heap.get? 170=some (tabObj #[rawInt 179,rawInt 33,.ref c0,rawInt 180,rawInt 18,.ref c1])) (hlen:text.length≤1000) {oc1:Obj} {vs1:Array Value} {t1:Tok} (hc1:s.heap.get? c1=some oc1) (hc170:(@Ne Nat c1 170)) (d11:oc1.data=.fields vs1) (d12:vs1[1]?=some (.str (ofString "_law_stream"++ofString ".<locals>."++ofString "<lambda>") t1))
 (hR:∀ h' tk' f0 d f1 cc S oD oC fd0 pm ct vs n,(∀ b o,(noS s.heap).get? b=some o→h'.get? b=some o)→StreamSt (noS s.heap) s.heap.objs.size h' f0 d f1 cc S c0 c1 oD oC oc1 fd0 (ofString "_law_stream"++ofString ".<locals>."++ofString "<lambda>") pm ct vs n (signs text) →
  R (.ok (.ret (.ref f0))) {s with heap:=h',toks:=tk'}) :
 codeAny (model prog w) (cA 450 800 outer) (.call (.ref 175) ⟨[.str text tt],[]⟩) R s:=by
 have X':(Mine.hd.heap_39 w.params).In s.heap:=X.keeps fun b o e=>of_hideAll _ e;have T':Top p loose mean mg mb s.heap:=T.keeps fun b o e=>of_hideAll _ e
 first | (k_dflt (refine' bY7 ?k3 ?k5 ?k6 ?k7 ?k8 ?k9 ?kB ?_ ?c2 ?c3 ?c4 ?c5;(case k3=>k_asm);(case k5=>k_asm);(case k6=>k_is);(case k7=>k_is);(case k8=>k_room);(case k9=>exact BindsTo.of_eq rfl);(case c5=>decide);(case kB=>exact locs rfl);(case c2=>exact rfl);(case c3=>exact rfl);(case c4=>exact rfl);k_whole)) | (k_dflt (refine' cQ9 ?k3 ?k5 ?k6 ?k7 ?k8 ?k9 ?kB ?kD ?_ ?c2 ?c3 ?c4;(case k3=>k_asm);(case k5=>k_asm);(case k6=>k_is);(case k7=>k_is);(case k8=>k_room);(case k9=>exact BindsTo.of_eq rfl);(case kB=>exact rfl);(case kD=>decide +kernel);(case c2=>exact rfl);(case c3=>exact rfl);(case c4=>exact rfl);k_whole))
 clear X' T';intro L h tk' cells F0 N0 Y
 k_cells Y
 try simp only [cons_append,nil_append] at N0
 (refine aH8 (cT2 F0 N0 hP) ?_;intro F N h170)
 clear F0 N0
 try simp only [cons_append,nil_append] at N
 try dsimp only
 repeat (law_purse 400000=>((fail_if_success (with_reducible show wpAny _ _ (call (Value.type "list") _) _ _ _));(first | (k_unfold;(try dsimp only)) | walk1 | (dsimp only;walk1) | (leave1;walk_say "STEP leave1";try dsimp only))))
 refine bA9 rfl hlen F N ?_;clear F N;intro h1 tk1 S ys nS F N hys hlS
 k_lt hlS
 repeat (law_purse 400000=>((fail_if_success (with_reducible show wpAny _ _ (eval (Expr.Lambda _ _ _ _) _) _ _ _));(first | (k_unfold;(try dsimp only)) | walk1 | (dsimp only;walk1) | (leave1;walk_say "STEP leave1";try dsimp only))))
 k_dflt (refine' kla_eval ?d0 ?_;(case d0=>exact rfl))
 k_dflt (refine' kla_hit (ps:=#[rawInt 179,rawInt 33,.ref c0,rawInt 180,rawInt 18,.ref c1]) ?F ?N ?T ?C ?cd ?memh ?th ?nh ?clh ?_;(case F=>k_asm);(case N=>k_asm);(case T=>exact T);(case cd=>exact rfl);(case C=>exact C);(case memh=>k_mem);(case th=>trivial);(case nh=>rfl);(case clh=>exact rfl))
 intro f0 ct0 h2 tk2 F2 N2 l01;clear F N;(try dsimp only at N2)
 k_lt l01
 repeat (law_purse 400000=>((fail_if_success (with_reducible show wpAny _ _ (eval (Expr.Lambda _ _ _ _) _) _ _ _));(first | (k_unfold;(try dsimp only)) | walk1 | (dsimp only;walk1) | (leave1;walk_say "STEP leave1";try dsimp only))))
 repeat (law_purse 400000=>((fail_if_success (with_reducible show wpAny _ _ (eval (Expr.Lambda _ _ _ _) _) _ _ _));(first | (k_unfold;(try dsimp only)) | walk1 | (dsimp only;walk1) | (leave1;walk_say "STEP leave1";try dsimp only))))
 k_dflt (refine' kla_eval ?d1 ?_;(case d1=>exact rfl))
 k_dflt (refine' kla_hit (ps:=#[rawInt 179,rawInt 33,.ref c0,rawInt 180,rawInt 18,.ref c1]) ?F ?N ?T ?C ?cd ?memh ?th ?nh ?clh ?_;(case F=>k_asm);(case N=>k_asm);(case T=>exact T);(case cd=>exact rfl);(case C=>exact C);(case memh=>k_mem);(case th=>trivial);(case nh=>rfl);(case clh=>exact rfl))
 intro f1 ct1 h3 tk3 F3 N3 l11;(try dsimp only at N3)
 k_lt l11
 repeat (law_purse 400000=>((fail_if_success (with_reducible show wpAny _ _ (setAttr _ _ _) _ _ _));(first | (k_unfold;(try dsimp only)) | walk1 | (dsimp only;walk1) | (leave1;walk_say "STEP leave1";try dsimp only))))
 k_dflt (refine' bB2 ?F ?N ?U ?_;(case F=>k_asm);(case N=>k_asm);(case U=>k_updF))
 intro d oD h4 tk4 hD F4 N4 hld
 k_lt hld
 (try dsimp only at N4)
 clear F3 N3
 repeat (law_purse 400000=>((first | (k_unfold;(try dsimp only)) | walk1 | (dsimp only;walk1) | (leave1;walk_say "STEP leave1";try dsimp only))))
 have hsz:@LE.le Nat _ s.heap.objs.size L:=by have:=F4.above;rw [hideAll_size] at this;exact this
 refine hR h4 _ f0 d f1 (L + 1) S oD _ _ _ _ ys nS F4.keep ⟨(N4 (f0,_) (by k_mem)).1,(N4 (d,oD) (by k_mem)).1,hD,(N4 (f1,_) (by k_mem)).1,F4.keep _ _ (hideAll_get _ hc1 fun q=>hc170 (mem_singleton.mp q)),⟨vs1,t1,d11,d12⟩,(N4 (L + 1,_) (by k_mem)).1,by assumption,(N4 (S,_) (by k_mem)).1,hys,(N4 (170,_) (by k_mem)).1,?new,?ord⟩
 case new =>
  intro a ha;simp only [mem_cons,not_mem_nil,or_false] at ha
  rcases ha with q | q | q | q | q<;>refine rwg (q ..) ?_
  ·exact (N4 (f0,_) (by k_mem)).2.2
  ·exact (N4 (d,oD) (by k_mem)).2.2
  ·exact (N4 (f1,_) (by k_mem)).2.2
  ·exact (N4 (L + 1,_) (by k_mem)).2.2
  ·exact (N4 (S,_) (by k_mem)).2.2
 case ord=>exact ⟨by (clear hP hlen hc1 hc170 d11 d12 hlS l01 l11 hld hsz;lia),by (clear hP hlen hc1 hc170 d11 d12 h170 hlS l01 l11 hld;lia),by (clear hP hlen hc1 hc170 d11 d12 h170 l01 l11 hld hsz;lia),by (clear hP hlen hc1 hc170 d11 d12 h170 hlS l11 hld hsz;omega),by (clear hP hlen hc1 hc170 d11 d12 h170 hlS l01 hld hsz;omega),by (clear hP hlen hc1 hc170 d11 d12 h170 hlS l01 l11 hsz;omega)⟩
section
open PySem.W.X
theorem map92 {prog:Program} {w:World} {h:Heap} (X:(Mine.hd.heap_39 w.params).In h):∃ f,h.MapOf (intKind prog w) 92 f∧f 114=none∧f 119=none∧f 120=none∧f 100=none∧∃ t,f 45=some (.str (ofString "\\-") t):=by
 have e:=X 92 _ (by with_unfolding_all rfl);refine ⟨_,⟨_,_,_,e,⟨rfl,rfl,rfl⟩,rfl,?_,fun u_=>rfl⟩,rfl,rfl,rfl,rfl,_,rfl⟩;intro e he;have he:=Array.mem_toList_iff.mpr he;simp only [mem_cons,not_mem_nil,or_false] at he
 rcases he with rfl | rfl | rfl | rfl | rfl | rfl | rfl | rfl | rfl | rfl | rfl | rfl | rfl | rfl | rfl | rfl | rfl | rfl | rfl | rfl | rfl | rfl | rfl | rfl<;>exact (aA0 (_) ((beq_self_eq_true _:_)) (rfl))
theorem bI8 {prog:Program} {w:World} {A:Around} {E:Value→Shared→Prop} {s:Shared} {c:Nat} {f:Int→Option Value} {Q:Builtin.Str.Mapped→Shared→Prop} (hh:A.handled=none)
 (hm:s.heap.MapOf (intKind prog w) 92 f) (hf:f c=none) (hQ:∀ h' tk',(∀ b o,s.heap.get? b=some o→h'.get? b=some o)→Q .keep {s with heap:=h',toks:=tk'}) :
 wpAny (model prog w) A (Builtin.Str.tableLookup (.ref 92) c) Q E s:=by
 refine wpAny_bind (wpAny_attempt (wpAny_bind (wpAny_mkInt ?_)));refine wpAny_getItem_missing_of (knd:=intKind prog w) (k:=(c:Int)) (s:={s with toks:=s.toks + 1}) (by simp [intKind,Value.isInt]) (by decide) hh hm hf ?_;intro h' e ne;dsimp only
 refine hide fun G_ k_=>?_;(refine aD1 (ne.there) ?_;intro ob t he hc hd)
 refine k_ ?_;refine wpAny_bind (wpAny_isInstance (T:="KeyError") (U:="LookupError") (b:=true) (aA0 (ob) (he) (hc)) ?_ ?_)
 ·refine rwg (isSubtype_type ..) ?_;kernel_rfl
 ·refine rwg (if_pos rfl ..) ?_;exact wpAny_bind (wpAny_rule (wpAny_pure (hQ _ _ ne.keeps)))
theorem bC3 {prog:Program} {w:World} {A:Around} {E:Value→Shared→Prop} {s:Shared} {c:Nat} {f:Int→Option Value} {x:Str} {tx:Tok} {Q:Builtin.Str.Mapped→Shared→Prop} (hh:A.handled=none)
 (hm:s.heap.MapOf (intKind prog w) 92 f) (hf:f c=some (.str x tx)) (hQ:∀ tk',Q (.text x) {s with toks:=tk'}) :
 wpAny (model prog w) A (Builtin.Str.tableLookup (.ref 92) c) Q E s:=by
 refine wpAny_bind (wpAny_attempt (wpAny_bind (wpAny_mkInt ?_)));refine wpAny_getItem_of (knd:=intKind prog w) (k:=(c:Int)) (s:={s with toks:=s.toks + 1}) (by simp [intKind,Value.isInt]) hm hf ?_;dsimp only
 repeat (first | lk | (with_reducible refine x_at ?_))
 exact hQ _
theorem bL9 {prog:Program} {w:World} {A:Around} {E:Value→Shared→Prop} {s:Shared} {c:Nat} {tc:Tok} {Q:Value→Shared→Prop} (hh:A.handled=none)
 (X:(Mine.hd.heap_39 w.params).In s.heap) (hc:c=114∨c=119∨c=120∨c=100) (hQ:∀ t' h' tk',(∀ b o,s.heap.get? b=some o→h'.get? b=some o)→Q (.str ⟨#[c]⟩ t') {s with heap:=h',toks:=tk'}) :
 wpAny (model prog w) A (call (.builtin "str.translate") [.str ⟨#[c]⟩ tc,.ref 92]) Q E s:=by
 obtain ⟨f,hm,e1,e2,e3,e4,t5,e5⟩:=map92 (prog:=prog) X;have hn:f c=none:=by clear hQ;rcases hc with rfl | rfl | rfl | rfl<;>assumption
 have h128:(#[c].all fun x=>decide (x < 128))=true:=by clear hQ hn;rcases hc with rfl | rfl | rfl | rfl<;>decide +kernel
 refine wpAny_call_entry F.slot_str_translate (typeIs_str _ _ _) F.entry_str_translate ?_ (F.args_str_translate_2 _ _);clear X;obtain ⟨h,g,d,t,os⟩:=s;unfold Builtin.«str.translate»
 repeat (first | lk | (with_reducible refine x_at ?_))
 refine rwg (if_pos h128 ..) ?_;dsimp only [List.lookup]
 refine wpAny_bind (bI8 (c:=c) (show A.in1.handled=none from hh) hm hn ?_);intro h' tk' k
 repeat (first | lk | (with_reducible refine x_at ?_))
 exact (aA0 (_) (rfl) (hQ _ _ _ k))
theorem bI0 {prog:Program} {w:World} {A:Around} {E:Value→Shared→Prop} {s:Shared} {tc:Tok} {Q:Value→Shared→Prop} (hh:A.handled=none)
 (X:(Mine.hd.heap_39 w.params).In s.heap) (hQ:∀ t' tk',Q (.str (ofString "\\-") t') {s with toks:=tk'}) :
 wpAny (model prog w) A (call (.builtin "str.translate") [.str ⟨#[45]⟩ tc,.ref 92]) Q E s:=by
 obtain ⟨f,hm,e1,e2,e3,e4,t5,e5⟩:=map92 (prog:=prog) X;have h128:(#[45].all fun x=>decide (x < 128))=true:=by decide +kernel
 refine wpAny_call_entry F.slot_str_translate (typeIs_str _ _ _) F.entry_str_translate ?_ (F.args_str_translate_2 _ _);clear X;obtain ⟨h,g,d,t,os⟩:=s;unfold Builtin.«str.translate»
 repeat (first | lk | (with_reducible refine x_at ?_))
 refine rwg (if_pos h128 ..) ?_;dsimp only [List.lookup]
 refine wpAny_bind (bC3 (c:=45) (show A.in1.handled=none from hh) hm e5 ?_);intro tk'
 repeat (first | ((fail_if_success (with_reducible show wpAny _ _ (Builtin.Str.tableLookup _ _ >>= _) _ _ _));lk) | (with_reducible refine x_at ?_))
 refine wpAny_bind (bC3 (c:=45) (show A.in1.handled=none from hh) hm e5 ?_);intro tk'
 repeat (first | lk | (with_reducible refine x_at ?_))
 exact (aA0 (_) (rfl) (hQ _ _))
theorem aT6 {M:Model} {A:Around} {E:Value→Shared→Prop} {s:Shared} {x:Str} {t:Tok} {pl:Sem Bool} {Q:Value × List Value→Shared→Prop} (h:Q (.builtin "str.translate",[.str x t]) s):wpAny M A (getMethod (.str x t) "translate" pl) Q E s:=by
 with_reducible exact GM.of (.str x t) (typeIs_str _ _ _) F.slot_str_translate F.type_str_translate GM.noRef h
theorem cN9 {prog:Program} {w:World} {p:Program} {loose:List Str} {mean:ExcName→Option Value} {mg mb:Str→Option Value} {outer:List Env} {s:Shared} {R:Result→Shared→Prop} {c:Nat} {tc:Tok}
 (X:(Mine.hd.heap_39 w.params).In s.heap) (T:Top p loose mean mg mb s.heap) (hc:c=114∨c=119∨c=120∨c=100)
 (hR:∀ h' tk' t',(∀ b o,s.heap.get? b=some o→h'.get? b=some o)→R (.ok (.ret (.str ⟨#[c]⟩ t'))) {s with heap:=h',toks:=tk'}) :
 codeAny (model prog w) (cA 600 2000 outer) (.call (.ref 102) ⟨[.str ⟨#[c]⟩ tc],[]⟩) R s:=by
 (k_dflt (refine' bY7 ?k3 ?k5 ?k6 ?k7 ?k8 ?k9 ?kB ?_ ?c2 ?c3 ?c4 ?c5;(case k3=>k_asm);(case k5=>k_asm);(case k6=>k_is);(case k7=>k_is);(case k8=>k_room);(case k9=>exact BindsTo.of_eq rfl);(case c5=>decide);(case kB=>exact locs rfl);(case c2=>exact rfl);(case c3=>exact rfl);(case c4=>exact rfl);k_whole))
 intro L h F N
 try dsimp only
 repeat law_purse 400000=>((fail_if_success (with_reducible show wpAny _ _ (call (Value.builtin _) [_,Value.ref _]) _ _ _));first | (with_reducible refine aT6 ?_) | (first | (k_unfold;(try dsimp only)) | walk1 | (dsimp only;walk1) | (leave1;walk_say "STEP leave1";try dsimp only)))
 refine bL9 rfl (X.keeps F.keep) hc ?_;intro t' h' tk' k;exact hR _ _ _ fun b o e=>k b o (F.keep b o e)
theorem cE0 {prog:Program} {w:World} {p:Program} {loose:List Str} {mean:ExcName→Option Value} {mg mb:Str→Option Value} {outer:List Env} {s:Shared} {R:Result→Shared→Prop} {tc:Tok}
 (X:(Mine.hd.heap_39 w.params).In s.heap) (T:Top p loose mean mg mb s.heap)
 (hR:∀ h' tk' t',(∀ b o,s.heap.get? b=some o→h'.get? b=some o)→R (.ok (.ret (.str (ofString "\\-") t'))) {s with heap:=h',toks:=tk'}) :
 codeAny (model prog w) (cA 600 2000 outer) (.call (.ref 102) ⟨[.str ⟨#[45]⟩ tc],[]⟩) R s:=by
 (k_dflt (refine' bY7 ?k3 ?k5 ?k6 ?k7 ?k8 ?k9 ?kB ?_ ?c2 ?c3 ?c4 ?c5;(case k3=>k_asm);(case k5=>k_asm);(case k6=>k_is);(case k7=>k_is);(case k8=>k_room);(case k9=>exact BindsTo.of_eq rfl);(case c5=>decide);(case kB=>exact locs rfl);(case c2=>exact rfl);(case c3=>exact rfl);(case c4=>exact rfl);k_whole))
 intro L h F N
 try dsimp only
 repeat law_purse 400000=>((fail_if_success (with_reducible show wpAny _ _ (call (Value.builtin _) [_,Value.ref _]) _ _ _));first | (with_reducible refine aT6 ?_) | (first | (k_unfold;(try dsimp only)) | walk1 | (dsimp only;walk1) | (leave1;walk_say "STEP leave1";try dsimp only)))
 refine bI0 rfl (X.keeps F.keep) ?_;intro t' tk';exact hR _ _ _ F.keep
end
inductive MAt (P:Params) (V:Vw) (m:Str→Option Value) (ρ:List Addr) (σ:St) (v:List Value) (h:Heap):Prop
 | mk (pre hz h0 nw:List (Addr × Obj)) (e:ρ=nw.map (·.1)) (F:Fr V.h₀ V.L h m) (N:News V.h₀ V.L h ((pre++(hz++h0))++nw)) (Pc:Pcs V σ m (pre++(hz++h0)) nw) (hv:WMain P v h0)
   (up:∀ v' h0',WMain P v' h0'→V.W ⟨v',σ.wd.fz⟩ (pre++(hz++h0'))):MAt P V m ρ σ v h
section
variable {prog:Program} {w:World} {p:Program} {loose:List Str} {mean:ExcName→Option Value} {mg mb:Str→Option Value} {A:Around} {V:Vw} {m:Str→Option Value} {ρ:List Addr} {σ:St} {s:Shared} {h h':Heap} {P:Params}
theorem bH6 (ov:V.Over (WZ (WMain P))) (R:Rel V m ρ σ h):MAt P V m ρ σ σ.wd.v h:=by
 refine hide fun G_ k_=>?_;(refine R.el ?_;intro hw nw e F N Pc)
 (refine aD1 (ov _ _ Pc.hW) ?_;intro pre l0 eo0 hW up;subst eo0)
 refine k_ ?_;cases hW with
 | mk hz h0 hf hq=>exact .mk pre hz h0 nw e F N Pc hq fun v' h0' h'=>up _ _ (.mk (wd:=⟨v',σ.wd.fz⟩) hz h0' hf h')
theorem Rel.kept (R:Rel V m ρ σ h) (k:∀ b o,h.get? b=some o→h'.get? b=some o):Rel V m ρ σ h':=by
 refine hide fun G_ k_=>?_;(refine R.el ?_;intro hw nw e F N Pc)
 refine k_ ?_;exact ⟨hw,nw,e,F.keeps k,fun q hq=>⟨k _ _ (N q hq).1,(N q hq).2⟩,Pc⟩
set_option tactic.hygienic true in
theorem cO6 {as:List AV} {vs:List Value} {K:AV→St→Prop} {Q:Value→Shared→Prop} {E:Value→Shared→Prop} (X:(Mine.hd.heap_39 w.params).In V.h₀) (T:Top p loose mean mg mb V.h₀) (a:AOk 1 A) (R:Rel V m ρ σ s.heap) (i:AllIs V.β ρ as vs) (h:escP as σ K) (hQ:Res V m ρ s K Q):wpAny (model prog w) A (call (.ref 102) vs) Q E s:=by
 (refine aA h ?_;intro x h1 h3)
 clear h;obtain rfl:=aF7 h1;obtain ⟨y,h2,z,hz,hK⟩:=aH1 h3;(refine aA3 (i.one) ?_;intro _ eo0 iv;clear i;subst eo0)
 (refine AV.str_el h2 iv ?_;intro t eo0;clear iv;subst eo0)
 have hF:∃ F:Heap→Prop,F s.heap∧∀ h,F h→(Mine.hd.heap_39 w.params).In h∧Top p loose mean mg mb h:=by
  (refine R.el ?_;intro hw nw e F N Pc)
  exact ⟨fun h=>∀ b o,V.h₀.get? b=some o→h.get? b=some o,F.keep,fun h k=>⟨X.keeps k,T.keeps k⟩⟩
 (refine aA3 hF ?_;clear hF;intro F hF1 hF2)
 (refine aE8 (hF2 _ hF1) ?_;intro X' T')
 refine wpAny_call ((a.mono (zero_le _)).inA.mono (d':=600) (u':=2000) (by decide) (by decide) |>.run fun outer=>?_);split at hz
 ·rename_i he;obtain rfl:=Option.some.inj hz;have hy:y=ofString "r"∨y=ofString "w"∨y=ofString "x"∨y=ofString "d":=by
   simp only [escL,any_cons,any_nil,Bool.or_false,Bool.or_eq_true,beq_iff_eq] at he
   rcases he with e | e | e | e<;>simp [e]
  clear h2 hz;obtain ⟨c,hc,rfl⟩:∃ c,(c=114∨c=119∨c=120∨c=100)∧y=⟨#[c]⟩:=by
   clear hK;rcases hy with rfl | rfl | rfl | rfl
   ·exact (aA0 (114) (.inl rfl) (by decide +kernel))
   ·exact (aA0 (119) (.inr (.inl rfl)) (by decide +kernel))
   ·exact (aA0 (120) (.inr (.inr (.inl rfl))) (by decide +kernel))
   ·exact (aA0 (100) (.inr (.inr (.inr rfl))) (by decide +kernel))
  exact cN9 X' T' hc fun h' tk' t' k=>hQ _ _ _ [] h' tk' (.same _) (R.kept k).toks (aF5 _) hK
 ·split at hz
  ·rename_i he;obtain rfl:=Option.some.inj hz;clear h2;obtain rfl:y=⟨#[45]⟩:=(eq_of_beq he).trans (by decide +kernel);exact cE0 X' T' fun h' tk' t' k=>hQ _ _ _ [] h' tk' (.same _) (R.kept k).toks (aF5 _) hK
  ·cases hz
theorem cJ8 {a b:Addr} {xs ys:List Str} (h:bH a xs=bH b ys):a=b∧xs=ys:=by
 (refine aE8 (List.cons.inj h) ?_;intro _ h1)
 (refine aE8 (List.cons.inj h1) ?_;intro h2 h3)
 exact ⟨Value.ref.inj h2,bE3 h3⟩
theorem bX4 {as:List AV} {vs:List Value} {K:AV→St→Prop} {Q:Value→Shared→Prop} {E:Value→Shared→Prop} (X:(Mine.hd.heap_39 w.params).In V.h₀) (T:Top p loose mean mg mb V.h₀) (a:AOk 1 A) (ov:V.Over (WZ (WMain w.params))) (R:Rel V m ρ σ s.heap) (i:AllIs V.β ρ as vs) (h:cE as σ K) (hQ:Res V m ρ s K Q):wpAny (model prog w) A (call (.ref 137) vs) Q E s:=by
 (refine aA h ?_;intro x h1 h3)
 clear h;obtain rfl:=aF7 h1;obtain ⟨b,h2,xs,hxs,hK⟩:=aH1 h3;obtain ⟨v1,rfl,iv⟩:∃ v,vs=[v]∧x.Is V.β ρ v:=by cases i with | cons iv inil=>cases inil;exact (aA0 (_) (rfl) (iv))
 (refine bG9 h2 iv ?_;intro eo0 eo1;clear h3 h1 h2 iv i;subst eo0;subst eo1)
 have z:=bH6 ov R;generalize hv:σ.wd.v=v at z;cases z with
 | mk pre hz h0 nw e F N Pc hv' up =>
  rw [hxs] at hv;cases hv' with
  | none ps tr=>cases hv
  | strm ps tr c0 D vs n y o ok=>cases hv
  | lex ps tr c0 D ln tl cs n ys o ok l0 l1 =>
   (refine aE8 (cJ8 hv) ?_;intro eo0 eo1;clear hxs hv;subst eo0;subst eo1)
   have nd:=Pc.nd;have hD:D.Ok:=.of (P:=w.params) (ln:=ln) (tl:=tl) (vs:=cs) (n:=n) o (by
    simp only [map_append,nodup_append,map_cons] at nd
    have:=nd.1.2.1.2.1;rw [nodup_cons,nodup_cons] at this;exact this.2.2)
   have eq:∀ b:List (Addr × Obj),pre++(hz++((104,tabObj ps)::(170,tabObj (aZ7 c0 D.c1))::b))=(pre++(hz++[(104,tabObj ps),(170,tabObj (aZ7 c0 D.c1))]))++b:=fun b=>by simp only [append_assoc,cons_append,nil_append]
   rw [eq] at N Pc;generalize hpre:pre++(hz++[(104,tabObj ps),(170,tabObj (aZ7 c0 D.c1))])=pre2 at *;have ov2:(⟨V.h₀,V.L,V.β,fun wd l=>∃ l0,l=pre2++l0∧WZ (WTok w.params D) wd l0,V.nm,V.cl⟩:Vw).Over (WZ (WTok w.params D)):=fun wd l ⟨l0,e,h⟩=>⟨pre2,l0,e,h,fun u_ l' h'=>⟨l',rfl,h'⟩⟩;have R2:Rel ⟨V.h₀,V.L,V.β,fun wd l=>∃ l0,l=pre2++l0∧WZ (WTok w.params D) wd l0,V.nm,V.cl⟩ m ρ ⟨σ.loc,σ.obj,⟨aU7 none xs,fun u_=>none⟩⟩ s.heap:=by
    refine ⟨pre2++D.all w.params ln tl cs n,nw,e,F,N,(aA0 ([]++(D.all w.params ln tl cs n++[])) (by refine rwg (append_nil ..) ?_;rfl) (.mk (wd:=⟨aU7 none xs,fun u_=>none⟩) [] _ (fun u_ u_ q=>nomatch q) (.mk ⟨0,0,true,ln,tl,cs,n⟩ none xs ⟨(fun q=>nomatch q),ok.st,ok.n,ok.h1,l0,l1⟩))),Pc.nd,Pc.len,Pc.ob,Pc.lo,Pc.ce⟩
   have C:=bD2 (lxU_ok (prog:=prog) (w:=w) (p:=p) (loose:=loose) (mean:=mean) (mg:=mg) (mb:=mb) hD) 1;have W:=cP1 (P:=w.params) (D:=D) (i:=none) (base:=[]) (σ:=⟨σ.loc,σ.obj,⟨aU7 none xs,fun u_=>none⟩⟩) (K:=fun a σ'=>a=.str (aA9 xs).1∧∃ j,σ'=⟨σ.loc,σ.obj,⟨aU7 j (aA9 xs).2,fun u_=>none⟩⟩) rfl ok.h1 ok.n fun j=>⟨rfl,j,rfl⟩;rw [bE4] at W;refine C A a [] ⟨V.h₀,V.L,V.β,fun wd l=>∃ l0,l=pre2++l0∧WZ (WTok w.params D) wd l0,V.nm,V.cl⟩ m (.ref 137) [.val (.ref D.Xa)] _ _ [.ref D.Xa] ρ s Q E ⟨X,T⟩ (fun n ao q=>by simp at q) ov2 R2 (.cons (show (AV.val (.ref D.Xa)).Is V.β ρ _ from rfl) .nil) W fun a' σ' v' r h' tk' g' R' i' k'=>?_;obtain ⟨rfl,j,rfl⟩:=k';(refine R'.el ?_;intro hw' nw' e' F' N' Pc')
   (refine aA3 (Pc'.hW) ?_;intro l0' eo0 hW';subst eo0)
   generalize hwd:(⟨aU7 j (aA9 xs).2,fun u_=>none⟩:Wd)=wd' at hW';cases hW' with
   | mk hz' h0' hf' hq' =>
    generalize hvv:wd'.v=v at hq';clear hf';subst hwd;cases hq' with
    | mk T' j' xs' ok' =>
     (refine aE8 (bS3 hvv) ?_;intro eo0 eo1;clear hvv;subst eo0;subst eo1)
     refine hQ _ ⟨σ.loc,σ.obj,⟨bH D.Xa (aA9 xs).2,σ.wd.fz⟩⟩ v' r h' tk' g' ?_ i' hK;have sub:Sublist ((pre2++D.all w.params T'.ln T'.tl T'.vs T'.n)++nw') ((pre2++(hz'++bO8 w.params D T' j))++nw'):=(((Sublist.refl pre2).append ((List.sublist_append_left _ _).trans (List.sublist_append_right hz' _))).append (Sublist.refl nw'));have W':=up _ _ (.lex ps tr c0 D T'.ln T'.tl T'.vs T'.n _ o ⟨ok'.st,ok'.n,ok'.h1⟩ ok'.l0 ok'.l1);rw [eq] at W';exact ⟨_,nw',e',F',fun q hq=>N' q (sub.subset hq),W',Pc'.nd.sublist (sub.map _),Pc'.len,Pc'.ob,Pc'.lo,Pc'.ce⟩
end
section
variable {prog:Program} {w:World} {p:Program} {loose:List Str} {mean:ExcName→Option Value} {mg mb:Str→Option Value} {A:Around} {V:Vw} {m:Str→Option Value} {ρ:List Addr} {σ:St} {s:Shared} {h h':Heap} {P:Params}
theorem cN0 {h₀:Heap} {L:Addr} {l:List (Addr × Obj)} {f0:Addr} {Q:Value→Shared→Prop} {E:Value→Shared→Prop} (a:InA 400 700 A) (X:(Mine.hd.heap_39 w.params).In h₀) (T:Top p loose mean mg mb h₀) (F:Fr h₀ L s.heap m) (N:News h₀ L s.heap l)
  (hQ:∀ Xa dx pb k1 k2 k3 k4 tl tw h' tk',Fr h₀ L h' m→News h₀ L h' ((dx,aL3 w.params k1 k2 k3 k4 1 tl f0 tw pb 4)::(Xa,instObj 147 dx)::(pb,W.listOf #[] 0)::l)→[dx,Xa,pb].Nodup→(∀ q∈l,q.1∉[dx,Xa,pb])→Q (.ref Xa) ⟨h',s.gens,s.drawn,tk',s.os⟩):wpAny (model prog w) A (call (.ref 147) [.ref f0]) Q E s:=by
 refine call_cls (C:=147) (fI:=123) (kw:=[]) F X N (by with_unfolding_all rfl) (by with_unfolding_all rfl) (by with_unfolding_all rfl) fun x dx h1 F1 N1 l1 l2=>?_;(refine aJ9 (a.fr) ?_;intro o ho)
 have nx:=N1 (x,instObj 147 dx) (.head _);have nd:=N1 (dx,dictOf [] 0) (.tail _ (.head _));refine bF1 (d:=420) (u:=750) (outer:=o) (g_init (Hb:=h₀) X T F1.keep nx.2.2 nd.2.2 l2 nx.1 nd.1 fun h2 tk2 pb k1 k2 k3 k4 tl tw hk hd hp hp0=>?_) a.h (le_trans (Nat.add_le_add_right a.d _) (le_of_ble_eq_true rfl)) ho (le_trans (Nat.add_le_add_right a.u _) (le_of_ble_eq_true rfl));have off:∀ q∈l,q.1≠dx:=fun q hq=>ne_of_lt (l1 q hq);have hpb:∀ b o,h1.get? b=some o→b≠pb:=fun b o e q=>by (replace e:=(q ..)▸e;replace e:=(hp0 ..)▸e);cases e
 have hpL:pb≠L:=fun q=>by
  (refine aP4 (F1.ns) ?_;intro oL _ _ hL _)
  exact hpb L oL hL q.symm
 refine ⟨rfl,hQ x dx pb k1 k2 k3 k4 tl tw h2 tk2 ⟨F1.ns.at' fun o e=>hk L o (Ne.symm nd.2.1) e,fun b o e=>hk b o (fun q=>by (replace e:=(q ..)▸e;replace e:=(nd.2.2 ..)▸e);cases e) (F1.keep b o e),F1.above⟩ (fun q hq=>?_) ?_ fun q hq hm=>?_⟩
 ·rcases mem_cons.mp hq with rfl | hq
  ·exact ⟨hd,nd.2⟩
  rcases mem_cons.mp hq with rfl | hq
  ·exact ⟨hk _ _ (ne_of_gt l2) nx.1,nx.2⟩
  rcases mem_cons.mp hq with rfl | hq
  ·refine ⟨hp,hpL,?_⟩;cases q:h₀.get? pb with
   | none=>rfl
   | some o=>exact absurd rfl (hpb pb o (F1.keep _ _ q))
  ·have z:=N1 q (.tail _ (.tail _ hq));exact ⟨hk _ _ (off q hq) z.1,z.2⟩
 ·have h1:=hpb dx _ nd.1;have h2:=hpb x _ nx.1;have h3:dx≠x:=ne_of_lt l2;simp only [nodup_cons,mem_cons,not_mem_nil,or_false,not_or,not_false_eq_true,nodup_nil,and_true]
  exact ⟨⟨h3,h1⟩,h2⟩
 ·have z:=N1 q (.tail _ (.tail _ hq));rcases mem_cons.mp hm with e | hm
  ·exact off q hq e
  rcases mem_cons.mp hm with e | hm
  ·exact ne_of_lt (lt_trans (l1 q hq) l2) e
  ·exact hpb _ _ z.1 (mem_singleton.mp hm)
theorem cP5 {a b:Addr} {x y:Str} (h:bZ6 a x=bZ6 b y):a=b∧x=y:=by
 (refine aE8 (List.cons.inj h) ?_;intro h1 h2)
 exact ⟨Value.ref.inj h1,(Value.str.inj (List.cons.inj h2).1).1⟩
theorem cO8 {as:List AV} {vs:List Value} {K:AV→St→Prop} {Q:Value→Shared→Prop} {E:Value→Shared→Prop} (X:(Mine.hd.heap_39 w.params).In V.h₀) (T:Top p loose mean mg mb V.h₀) (a:AOk 1 A) (ov:V.Over (WZ (WMain w.params))) (R:Rel V m ρ σ s.heap) (i:AllIs V.β ρ as vs) (h:lexP as σ K) (hQ:Res V m ρ s K Q):wpAny (model prog w) A (call (.ref 147) vs) Q E s:=by
 (refine aA h ?_;intro x h1 h3)
 clear h;obtain rfl:=aF7 h1;obtain ⟨b,h2,y,hxs,hK⟩:=aH1 h3;obtain ⟨v1,rfl,iv⟩:∃ v,vs=[v]∧x.Is V.β ρ v:=by cases i with | cons iv inil=>cases inil;exact (aA0 (_) (rfl) (iv))
 (refine bG9 h2 iv ?_;intro eo0 eo1;clear h3;clear iv;subst eo0;subst eo1)
 have z:=bH6 ov R;generalize hv:σ.wd.v=v at z;cases z with
 | mk pre hz h0 nw e F N Pc hv' up =>
  replace hv:=(hxs ..)▸hv;cases hv' with
  | none ps tr=>cases hv
  | lex ps tr c0 D ln tl cs n ys o ok l0 l1=>cases hv
  | strm ps tr c0 D cs n y' o ok =>
   (refine aE8 (cP5 hv) ?_;intro eo0 eo1;subst eo0;subst eo1)
   refine cN0 ((a.mono (zero_le _)).inA.mono (by decide) (by decide)) X T F N fun Xa dx pb k1 k2 k3 k4 tl tw h' tk' F' N' nd' off=>?_;have W':=up _ _ (.lex ps tr c0 ⟨Xa,dx,pb,D.f0,D.d,D.f1,D.cc,D.S,D.c1,D.oD,D.oC,D.oc1,D.fd0,D.q,D.pm,D.ct,k1,k2,k3,k4,tw⟩ 1 tl cs n (signs y) ⟨o.fn,o.c1d,o.ccd,o.q⟩ ok (by decide) (by have:=ok.n;(clear e hxs h1 h2 hv;lia)));have e1:(pre++(hz++((104,tabObj ps)::(170,tabObj (aZ7 c0 D.c1))::D.strm cs n)))++nw=(pre++(hz++[(104,tabObj ps),(170,tabObj (aZ7 c0 D.c1)),(D.S,bF7 cs n)]))++([]++([(D.f0,⟨.type "function",some D.d,.func D.fd0,#[]⟩),(D.d,D.oD),(D.f1,aX8 D.q D.cc D.pm D.c1 D.ct),(D.c1,D.oc1),(D.cc,D.oC)]++nw)):=by simp only [append_assoc,cons_append,nil_append]
   have e2:(pre++(hz++((104,tabObj ps)::(170,tabObj (aZ7 c0 D.c1))::LexD.all ⟨Xa,dx,pb,D.f0,D.d,D.f1,D.cc,D.S,D.c1,D.oD,D.oC,D.oc1,D.fd0,D.q,D.pm,D.ct,k1,k2,k3,k4,tw⟩ w.params 1 tl cs n)))++nw=(pre++(hz++[(104,tabObj ps),(170,tabObj (aZ7 c0 D.c1)),(D.S,bF7 cs n)]))++([(dx,aL3 w.params k1 k2 k3 k4 1 tl D.f0 tw pb 4),(Xa,instObj 147 dx),(pb,W.listOf #[] 0)]++([(D.f0,⟨.type "function",some D.d,.func D.fd0,#[]⟩),(D.d,D.oD),(D.f1,aX8 D.q D.cc D.pm D.c1 D.ct),(D.c1,D.oc1),(D.cc,D.oC)]++nw)):=by simp only [append_assoc,cons_append,nil_append]
   have nd:=Pc.nd;rw [e1] at N' off nd;generalize [(D.f0,(⟨.type "function",some D.d,.func D.fd0,#[]⟩:Obj)),(D.d,D.oD),(D.f1,aX8 D.q D.cc D.pm D.c1 D.ct),(D.c1,D.oc1),(D.cc,D.oC)]++nw=C at *;generalize pre++(hz++[(104,tabObj ps),(170,tabObj (aZ7 c0 D.c1)),(D.S,bF7 cs n)])=B at *;refine hQ (.val (.ref Xa)) ⟨σ.loc,σ.obj,⟨bH Xa (signs y),σ.wd.fz⟩⟩ _ [] h' tk' (.same _) (Rel.toks ⟨_,nw,e,F',?_,W',?_,Pc.len,Pc.ob,Pc.lo,Pc.ce⟩) rfl (hK Xa)
   ·refine rwg (e2 ..) ?_;intro q hq;rcases mem_append.mp hq with hq | hq
    ·exact N' q (.tail _ (.tail _ (.tail _ (mem_append_left _ hq))))
    rcases mem_append.mp hq with hq | hq
    ·exact N' q (mem_append_left (B++([]++C)) hq)
    ·exact N' q (.tail _ (.tail _ (.tail _ (mem_append_right _ hq))))
   ·refine rwg (e2 ..) ?_;rw [map_append,map_append] at nd ⊢;refine aX5 nd nd' fun x hx=>⟨fun hm=>?_,fun hm=>?_⟩
    ·(refine aA6 hm ?_;intro q hq eo0;clear hm;subst eo0)
     exact off q (mem_append_left _ hq) hx
    ·(refine aA6 hm ?_;intro q hq eo0;clear hm;subst eo0)
     exact off q (mem_append_right _ hq) hx
end
theorem aW7 {l1 l2 new:List Addr} (k:Nat) (h:(l1++l2).Nodup) (hold:∀ a∈l1++l2,(@LT.lt Nat _ a k)) (hnew:∀ a∈new,(@LE.le Nat _ k a)) (nd:new.Nodup):(l1++(new++l2)).Nodup :=
 aX5 (B:=[]) h nd fun x hx=>⟨fun hm=>absurd (hold x (mem_append_left _ hm)) (Nat.not_lt.mpr (hnew x hx)),fun hm=>absurd (hold x (mem_append_right _ hm)) (Nat.not_lt.mpr (hnew x hx))⟩
theorem StreamSt.lt {base:Heap} {sz:Nat} {h':Heap} {f0 d f1 cc S c0 c1:Addr} {oD oC oc1:Obj} {fd0:FuncData} {q:Str} {pm ct:Value} {vs:List Value} {n:Nat} {xs:List Str} (z:StreamSt base sz h' f0 d f1 cc S c0 c1 oD oC oc1 fd0 q pm ct vs n xs):∀ b∈[S,f0,d,f1],(@LT.lt Nat _ cc b):=by
 (refine aL6 (z.ord) ?_;intro o1 o2 o3 o4 o5 o6)
 intro b hb;clear z;rcases mem_cons.mp hb with rfl | hb
 ·exact o3
 rcases mem_cons.mp hb with rfl | hb
 ·exact lt_trans o3 o4
 rcases mem_cons.mp hb with rfl | hb
 ·exact lt_trans o3 (lt_trans o4 (lt_trans o5 o6))
 ·refine rwg (mem_singleton.mp hb ..) ?_;exact lt_trans o3 (lt_trans o4 o5)
theorem StreamSt.nd {base:Heap} {sz:Nat} {h':Heap} {f0 d f1 cc S c0 c1:Addr} {oD oC oc1:Obj} {fd0:FuncData} {q:Str} {pm ct:Value} {vs:List Value} {n:Nat} {xs:List Str} (z:StreamSt base sz h' f0 d f1 cc S c0 c1 oD oC oc1 fd0 q pm ct vs n xs):[S,f0,d,f1].Nodup:=by
 refine hide fun G_ k_=>?_;(refine aL6 (z.ord) ?_;intro o1 o2 o3 o4 o5 o6)
 refine k_ ?_;simp only [nodup_cons,mem_cons,not_mem_nil,or_false,not_or,not_false_eq_true,nodup_nil,and_true]
 exact ⟨⟨ne_of_lt o4,ne_of_lt (lt_trans o4 (lt_trans o5 o6)),ne_of_lt (lt_trans o4 o5)⟩,⟨ne_of_lt (lt_trans o5 o6),ne_of_lt o5⟩,ne_of_gt o6⟩
section
variable {prog:Program} {w:World} {p:Program} {loose:List Str} {mean:ExcName→Option Value} {mg mb:Str→Option Value} {A:Around} {V:Vw} {m:Str→Option Value} {ρ:List Addr} {σ:St} {s:Shared}
theorem bP7 {pre hz nw cl:List (Addr × Obj)} {ps tb:Array Value} {tr:Trip ps.toList} {y:Str} {h':Heap} {f0 d f1 cc S c0 c1:Addr} {oD oC oc1:Obj} {fd0:FuncData} {pm ct:Value} {vs:List Value} {n:Nat} (hy:y.length≤1000)
  (F:Fr V.h₀ V.L s.heap m) (N:News V.h₀ V.L s.heap ((pre++(hz++((104,tabObj ps)::(170,tabObj tb)::cl)))++nw)) (nd:(((pre++(hz++((104,tabObj ps)::(170,tabObj tb)::cl)))++nw).map (·.1)).Nodup) {hw:List (Addr × Obj)} (Pc:Pcs V σ m hw nw) (e:ρ=nw.map (·.1))
  (up:∀ v' h0',WMain w.params v' h0'→V.W ⟨v',σ.wd.fz⟩ (pre++(hz++h0'))) (keep:∀ b o,(noS s.heap).get? b=some o→h'.get? b=some o) (z:StreamSt (noS s.heap) s.heap.objs.size h' f0 d f1 cc S c0 c1 oD oC oc1 fd0 lamQ pm ct vs n (signs y))
  (hcl:cl=[(c1,oc1)]∨cl=[]∧(@LT.lt Nat _ f0 c1)∧(@LT.lt Nat _ c1 f1)):Rel V m ρ ⟨σ.loc,σ.obj,⟨bZ6 f0 y,σ.wd.fz⟩⟩ h':=by
 have lt:∀ q∈(pre++(hz++((104,tabObj ps)::(170,tabObj tb)::cl)))++nw,(@LT.lt Nat _ q.1 s.heap.objs.size):=fun q hq=>Heap.lt_size (N q hq).1;have hL:(@LT.lt Nat _ V.L s.heap.objs.size):=F.ns.lt;have base:∀ b:Addr,(@LE.le Nat _ s.heap.objs.size b)→b≠V.L∧V.h₀.get? b=none:=fun b hb=>by
  refine ⟨fun q=>absurd hL (Nat.not_lt.mpr (q▸hb)),?_⟩;cases q:V.h₀.get? b with
  | none=>rfl
  | some o=>exact absurd (Heap.lt_size (F.keep _ _ q)) (Nat.not_lt.mpr hb)
 have h170:=N (170,tabObj tb) (mem_append_left _ (mem_append_right _ (mem_append_right _ (.tail _ (.head _)))));have old:∀ b o,b≠170→s.heap.get? b=some o→h'.get? b=some o:=fun b o hb e=>keep b o (hideAll_get _ e fun q=>hb (mem_singleton.mp q));have F':Fr V.h₀ V.L h' m:=⟨F.ns.at' fun o e=>old _ o (Ne.symm h170.2.1) e,fun b o e=>old b o (fun q=>by (replace e:=(q ..)▸e;replace e:=(h170.2.2 ..)▸e);cases e) (F.keep b o e),F.above⟩;have n170:∀ q,(q∈pre∨q∈hz++[(104,tabObj ps)]∨q∈cl∨q∈nw)→q.1≠170:=fun q hq=>by
  have nd':(((pre++((hz++[(104,tabObj ps)])++([(170,tabObj tb)]++cl)))++nw).map (fun p:Addr × Obj=>p.1)).Nodup:=by
   refine rwg (show pre++((hz++[(104,tabObj ps)])++([(170,tabObj tb)]++cl))=pre++(hz++((104,tabObj ps)::(170,tabObj tb)::cl)) by simp only [append_assoc,cons_append,nil_append]) ?_;exact nd
  exact bB6 nd' (x:=(170,tabObj tb)) (.head _) hq
 have up170:∀ q,(q∈pre∨q∈hz++[(104,tabObj ps)]∨q∈cl∨q∈nw)→h'.get? q.1=some q.2∧q.1≠V.L∧V.h₀.get? q.1=none:=fun q hq=>by
  have hm:q∈(pre++(hz++((104,tabObj ps)::(170,tabObj tb)::cl)))++nw:=by
   rcases hq with hq | hq | hq | hq
   ·exact mem_append_left _ (mem_append_left _ hq)
   ·rcases mem_append.mp hq with hq | hq
    ·exact mem_append_left _ (mem_append_right _ (mem_append_left _ hq))
    ·refine rwg (mem_singleton.mp hq ..) ?_;exact mem_append_left _ (mem_append_right _ (mem_append_right _ (.head _)))
   ·exact mem_append_left _ (mem_append_right _ (mem_append_right _ (.tail _ (.tail _ hq))))
   ·exact mem_append_right _ hq
  exact ⟨old _ _ (n170 q hq) (N q hm).1,(N q hm).2⟩
 have e2:∀ (u:Obj) (r:List (Addr × Obj)),(pre++(hz++((104,tabObj ps)::(170,u)::r)))++nw=(pre++(hz++[(104,tabObj ps),(170,u)]))++(r++nw):=fun u r=>by simp only [append_assoc,cons_append,nil_append]
 have am:∀ u:Obj,(pre++(hz++[(104,tabObj ps),(170,u)])).map (fun p:Addr × Obj=>p.1)=(pre++(hz++[(104,tabObj ps),(170,tabObj tb)])).map (fun p:Addr × Obj=>p.1):=fun u=>by simp only [map_append,map_cons]
 (refine aL6 (id z.ord) ?_;intro o1 o2 o3 o4 o5 o6)
 have cge:(@LE.le Nat _ s.heap.objs.size cc):=le_of_lt o2;have hge:∀ b∈[S,f0,d,f1],(@LE.le Nat _ s.heap.objs.size b):=fun b hb=>le_of_lt (lt_trans o2 (z.lt b hb));have W':=up _ _ (.strm ps tr c0 ⟨0,0,0,f0,d,f1,cc,S,c1,oD,oC,oc1,fd0,lamQ,pm,ct,0,0,0,0,0⟩ vs n y ⟨z.fn,z.c1d,z.ccd,rfl⟩ ⟨z.chs,by refine rwg (signs_length ..) ?_;exact hy,fun u_ h=>cD0 h⟩);refine ⟨_,nw,e,F',fun q hq=>?_,W',?_,Pc.len,Pc.ob,Pc.lo,Pc.ce⟩
 ·replace hq:=(e2 ..)▸hq;rcases mem_append.mp hq with hq | hq
  ·rcases mem_append.mp hq with hq | hq
   ·exact up170 q (.inl hq)
   rcases mem_append.mp hq with hq | hq
   ·exact up170 q (.inr (.inl (mem_append_left _ hq)))
   rcases mem_cons.mp hq with rfl | hq
   ·exact up170 _ (.inr (.inl (mem_append_right _ (.head _))))
   ·refine rwg (mem_singleton.mp hq ..) ?_;exact ⟨z.tab,h170.2⟩
  rcases mem_append.mp hq with hq | hq
  ·rcases mem_cons.mp hq with rfl | hq
   ·exact ⟨z.So,base _ (hge _ (.head _))⟩
   rcases mem_cons.mp hq with rfl | hq
   ·exact ⟨z.f0o,base _ (hge _ (.tail _ (.head _)))⟩
   rcases mem_cons.mp hq with rfl | hq
   ·exact ⟨z.do_,base _ (hge _ (.tail _ (.tail _ (.head _))))⟩
   rcases mem_cons.mp hq with rfl | hq
   ·exact ⟨z.f1o,base _ (hge _ (.tail _ (.tail _ (.tail _ (.head _)))))⟩
   rcases mem_cons.mp hq with rfl | hq
   ·clear N nd lt n170;rcases hcl with rfl | ⟨_,g1,_⟩
    ·exact up170 (c1,oc1) (.inr (.inr (.inl (.head _))))
    ·exact ⟨z.c1o,base _ (le_trans (hge f0 (.tail _ (.head _))) (le_of_lt g1))⟩
   ·refine rwg (mem_singleton.mp hq ..) ?_;exact ⟨z.cco,base _ cge⟩
  ·exact up170 q (.inr (.inr (.inr hq)))
 ·rw [e2] at nd ⊢;rw [map_append,am] at nd ⊢;have hold:∀ b∈(pre++(hz++[(104,tabObj ps),(170,tabObj tb)])).map (fun p:Addr × Obj=>p.1)++(cl++nw).map (fun p:Addr × Obj=>p.1),(@LT.lt Nat _ b s.heap.objs.size):=fun b hb=>by
   (replace hb:=(Eq.symm (map_append ..))▸hb;replace hb:=(Eq.symm (e2 ..))▸hb)
   (refine aA6 hb ?_;intro q hq eo0;clear hb;subst eo0)
   exact lt q hq
  generalize (pre++(hz++[(104,tabObj ps),(170,tabObj tb)])).map (fun p:Addr × Obj=>p.1)=B at *;clear N lt n170 up170;rcases hcl with rfl | ⟨rfl,g1,g2⟩
  ·have k1:((B++[c1])++([cc]++nw.map (fun p:Addr × Obj=>p.1))).Nodup:=aW7 s.heap.objs.size (by refine rwg (append_assoc ..) ?_;exact nd) (by refine rwg (append_assoc ..) ?_;exact hold) (fun b hb=>by refine rwg (mem_singleton.mp hb ..) ?_;exact cge) (nodup_cons.mpr ⟨not_mem_nil,nodup_nil⟩);replace k1:=(append_assoc ..)▸k1;refine aW7 (cc + 1) k1 (fun b hb=>?_) (fun b hb=>z.lt b hb) z.nd;rcases mem_append.mp hb with hb | hb
   ·exact lt_succ_of_lt (lt_trans (hold b (mem_append_left _ hb)) o2)
   rcases mem_append.mp hb with hb | hb
   ·exact lt_succ_of_lt (lt_trans (hold b (mem_append_right _ (mem_append_left _ hb))) o2)
   rcases mem_append.mp hb with hb | hb
   ·refine rwg (mem_singleton.mp hb ..) ?_;exact lt_succ_self _
   ·exact lt_succ_of_lt (lt_trans (hold b (mem_append_right _ (.tail _ hb))) o2)
  ·refine aW7 (new:=[S,f0,d,f1,c1,cc]) s.heap.objs.size nd hold (fun b hb=>?_) ?_
   ·have hb':b∈[S,f0,d,f1]∨b=c1∨b=cc:=by
     simp only [mem_cons,not_mem_nil,or_false] at hb ⊢
     rcases hb with q | q | q | q | q | q<;>simp [q]
    clear z W' g2 hb o1 o2 o3;rcases hb' with hb | rfl | rfl
    ·exact hge b hb
    ·exact le_trans (hge f0 (.tail _ (.head _))) (le_of_lt g1)
    ·exact cge
   ·have k1:[c1,cc].Nodup:=nodup_cons.mpr ⟨fun q=>absurd (lt_trans (z.lt f0 (.tail _ (.head _))) g1) (by refine rwg (mem_singleton.mp q ..) ?_;exact Nat.lt_irrefl _),nodup_cons.mpr ⟨not_mem_nil,nodup_nil⟩⟩;refine nodup_append.mpr ⟨z.nd,k1,fun b hb b' hb'=>?_⟩;clear W' k1;rcases mem_cons.mp hb' with rfl | hb'
    ·clear hge;clear o3 z;rcases mem_cons.mp hb with rfl | hb
     ·exact ne_of_lt (lt_trans o4 g1)
     clear o4 o5;rcases mem_cons.mp hb with rfl | hb
     ·exact ne_of_lt g1
     rcases mem_cons.mp hb with rfl | hb
     ·exact ne_of_gt (lt_trans g2 o6)
     ·refine rwg (mem_singleton.mp hb ..) ?_;exact ne_of_gt g2
    ·refine rwg (mem_singleton.mp hb' ..) ?_;exact ne_of_gt (z.lt b hb)
structure XM (w:World) (p:Program) (loose:List Str) (mean:ExcName→Option Value) (mg mb:Str→Option Value) (h:Heap):Prop where
 X:(Mine.hd.heap_39 w.params).In h
 T:Top p loose mean mg mb h
 c1:CodeHd h 174 170
 c2:CodeHd h 108 104
theorem XM.keeps {h h':Heap} (x:XM w p loose mean mg mb h) (k:∀ b o,h.get? b=some o→h'.get? b=some o):XM w p loose mean mg mb h':=⟨x.X.keeps k,x.T.keeps k,x.c1.keeps k,x.c2.keeps k⟩
theorem strm2 {pre hz nw rest:List (Addr × Obj)} {ps:Array Value} (tr:Trip ps.toList) {y:Str} {t:Tok} {c0:Addr} {D:LexD} {K:AV→St→Prop} {Q:Value→Shared→Prop} {E:Value→Shared→Prop} (hy:y.length≤1000) (x:XM w p loose mean mg mb (noS s.heap)) (a:AOk 1 A) (o:D.Ok0) (hc:(D.c1,D.oc1)∈rest)
  (F:Fr V.h₀ V.L s.heap m) (N:News V.h₀ V.L s.heap ((pre++(hz++((104,tabObj ps)::(170,tabObj (aZ7 c0 D.c1))::rest)))++nw)) {hw:List (Addr × Obj)} (Pc:Pcs V σ m hw nw) (nd:(((pre++(hz++((104,tabObj ps)::(170,tabObj (aZ7 c0 D.c1))::rest)))++nw).map (·.1)).Nodup) (e:ρ=nw.map (·.1))
  (up:∀ v' h0',WMain w.params v' h0'→V.W ⟨v',σ.wd.fz⟩ (pre++(hz++h0'))) (hK:∀ b,K (.val (.ref b)) ⟨σ.loc,σ.obj,⟨bZ6 b y,σ.wd.fz⟩⟩) (hQ:Res V m ρ s K Q):wpAny (model prog w) A (call (.ref 175) [.str y t]) Q E s:=by
 have sub:Sublist ((pre++(hz++((104,tabObj ps)::(170,tabObj (aZ7 c0 D.c1))::[(D.c1,D.oc1)])))++nw) ((pre++(hz++((104,tabObj ps)::(170,tabObj (aZ7 c0 D.c1))::rest)))++nw) :=
  ((Sublist.refl pre).append ((Sublist.refl hz).append (((List.singleton_sublist.mpr hc).cons_cons _).cons_cons _))).append (Sublist.refl nw)
 have N1:News V.h₀ V.L s.heap ((pre++(hz++((104,tabObj ps)::(170,tabObj (aZ7 c0 D.c1))::[(D.c1,D.oc1)])))++nw):=fun q hq=>N q (sub.subset hq);have nd1:=nd.sublist (sub.map (·.1));clear N nd sub hc;have h170:=N1 (170,tabObj (aZ7 c0 D.c1)) (mem_append_left _ (mem_append_right _ (mem_append_right _ (.tail _ (.head _)))));have hc1:=N1 (D.c1,D.oc1) (mem_append_left _ (mem_append_right _ (mem_append_right _ (.tail _ (.tail _ (.head _))))));have hne:D.c1≠170:=fun q=>by
  have nd':(List.map (fun p:Addr × Obj=>p.1) ((pre++((hz++[(104,tabObj ps),(170,tabObj (aZ7 c0 D.c1))])++([(D.c1,D.oc1)]++[])))++nw)).Nodup:=by
   refine rwg (show pre++((hz++[(104,tabObj ps),(170,tabObj (aZ7 c0 D.c1))])++([(D.c1,D.oc1)]++[]))=pre++(hz++((104,tabObj ps)::(170,tabObj (aZ7 c0 D.c1))::[(D.c1,D.oc1)])) by simp only [append_assoc,cons_append,nil_append,append_nil]) ?_;exact nd1
  exact bB6 nd' (x:=(D.c1,D.oc1)) (y:=(170,tabObj (aZ7 c0 D.c1))) (.head _) (.inr (.inl (mem_append_right _ (.tail _ (.head _))))) q.symm
 refine hide fun G_ k_=>?_;(refine aG9 (o.c1d) ?_;intro vs1 t1 d1 d2)
 refine k_ ?_;rw [o.q] at d2;refine wpAny_call (((a.mono (zero_le _)).inA.mono (d':=450) (u':=800) (by decide) (by decide)).run fun outer=>bZ5 x.X x.T x.c1 h170.1 hy hc1.1 hne d1 d2 fun h' tk' f0 d f1 cc S oD oC fd0 pm ct vs n keep z=>?_);exact hQ (.val (.ref f0)) ⟨σ.loc,σ.obj,⟨bZ6 f0 y,σ.wd.fz⟩⟩ _ [] h' tk' (.same _) (bP7 (tr:=tr) hy F N1 nd1 Pc e up keep z (.inl rfl)).toks rfl (hK f0)
theorem cD8 {as:List AV} {vs:List Value} {K:AV→St→Prop} {Q:Value→Shared→Prop} {E:Value→Shared→Prop} (x:XM w p loose mean mg mb V.h₀) (a:AOk 1 A) (ov:V.Over (WZ (WMain w.params))) (R:Rel V m ρ σ s.heap) (i:AllIs V.β ρ as vs) (h:bN5 as σ K) (hQ:Res V m ρ s K Q):wpAny (model prog w) A (call (.ref 175) vs) Q E s:=by
 (refine aA h ?_;intro b h1 h3)
 clear h;obtain rfl:=aF7 h1;(refine aI8 (aH1 h3) ?_;intro y h2 hy hK)
 obtain ⟨v1,rfl,iv⟩:∃ v,vs=[v]∧b.Is V.β ρ v:=by cases i with | cons iv inil=>cases inil;exact (aA0 (_) (rfl) (iv))
 (refine AV.str_el h2 iv ?_;intro t eo0;clear iv i;subst eo0)
 have z:=bH6 ov R;generalize hv:σ.wd.v=v at z;cases z with
 | mk pre hz h0 nw e F N Pc hv' up =>
  have xs:∀ tb r,News V.h₀ V.L s.heap ((pre++(hz++((104,tb)::r)))++nw)→(∃ u,(170,u)∈r)→XM w p loose mean mg mb (noS s.heap):=fun tb r N ⟨u,hu⟩=>x.keeps fun b o e=>hideAll_get _ (F.keep b o e) fun q=>by
   have:=(N (170,u) (mem_append_left _ (mem_append_right _ (mem_append_right _ (.tail _ hu))))).2.2;(replace e:=(mem_singleton.mp q ..)▸e;replace e:=(this ..)▸e);cases e
  cases hv' with
  | none ps tr =>
   have x':=xs _ _ N ⟨_,.head _⟩;have h170:=N (170,tabObj #[]) (mem_append_left _ (mem_append_right _ (mem_append_right _ (.tail _ (.head _)))));refine wpAny_call (((a.mono (zero_le _)).inA.mono (d':=450) (u':=800) (by decide) (by decide)).run fun outer=>cE2 x'.X x'.T x'.c1 h170.1 hy fun h' tk' f0 d f1 cc S c0 c1 oD oC oc1 fd0 pm ct vs n keep z u_ g1 g2=>?_);exact hQ (.val (.ref f0)) ⟨σ.loc,σ.obj,⟨bZ6 f0 y,σ.wd.fz⟩⟩ _ [] h' tk' (.same _) (bP7 (tr:=tr) hy F N Pc.nd Pc e up keep z (.inr ⟨rfl,g1,g2⟩)).toks rfl (hK f0)
  | strm ps tr c0 D cs n y' o ok=>exact strm2 tr hy (xs _ _ N ⟨_,.head _⟩) a o (by simp) F N Pc Pc.nd e up hK hQ
  | lex ps tr c0 D ln tl cs n ys o ok l0 l1=>exact strm2 tr hy (xs _ _ N ⟨_,.head _⟩) a o (by simp) F N Pc Pc.nd e up hK hQ
end
section
open PySem.W.X
noncomputable abbrev cL8 (TI TO:Addr) (f0:Value) (f:Bool):Obj:={cls:=.type "zip",dict:=none,data:=.fields #[f0,.bool f,.bool false,.ref TI,.ref TO],slots:=#[]}
section
variable {prog:Program} {w:World} {A:Around} {E:Value→Shared→Prop} {s:Shared}
theorem cR {z TI TO a:Addr} {f:Bool} {oa:Obj} {Q:Bool→Shared→Prop}
  (hz:s.heap.get? z=some (cL8 TI TO (rawInt a) f)) (ha:s.heap.get? a=some oa)
  (hQ:∀ h',h'.get? z=some (cL8 TI TO (rawInt a) true)→Heap.SameBut z s.heap h'→Q false {s with heap:=h'}) :
  wpAny (model prog w) A (Builtin.SmallTypes.ownedTupleIsFree (.ref z)) Q E s:=by
 refine wpAny_bind (wpAny_field hz rfl (x:=rawInt a) rfl ?_);refine (?_:wpAny _ _ (loadIfAlive ((a:Int).toNat) >>= _) _ _ _);refine rwg (Int.toNat_natCast ..) ?_;refine wpAny_bind (kdx_alive ha ?_);simp only [Option.isNone_some,Bool.false_eq_true,if_false]
 refine wpAny_bind (wpAny_field hz rfl (x:=.bool f) rfl ?_);cases f with
 | true =>
  refine rwg (if_neg (show ¬ ((Value.bool true != Value.bool true)=true) from Bool.false_ne_true) ..) ?_;exact wpAny_pure (hQ _ hz (Heap.SameBut.refl _ _))
 | false =>
  refine rwg (if_pos (show (Value.bool false != Value.bool true)=true from rfl) ..) ?_;refine wpAny_bind (wpAny_setField_rec hz (by simp) fun h₃ he₃ hs₃=>?_);exact wpAny_pure (hQ _ he₃ hs₃)
theorem bX {z TI TO i1 i2 l1 l2 a:Addr} {f:Bool} {oa:Obj} {k1 k2:Nat} {xs ys:Array Value} {x y:Value} {Q:Value→Shared→Prop} (D:ZipApart z TI TO i1 i2 l1 l2)
  (hz:s.heap.get? z=some (cL8 TI TO (rawInt a) f)) (ha:s.heap.get? a=some oa) (hTI:IsPair s.heap TI (.ref i1) (.ref i2))
  (h1:s.heap.IsListIter i1 l1 k1) (h2:s.heap.IsListIter i2 l2 k2) (hl1:s.heap.IsList l1 xs) (hl2:s.heap.IsList l2 ys) (hx:xs[k1]?=some x) (hy:ys[k2]?=some y)
  (hQ:∀ h',h'.get? z=some (cL8 TI TO (rawInt a) true)→h'.IsListIter i1 l1 (k1 + 1)→h'.IsListIter i2 l2 (k2 + 1)→IsPair h' s.heap.objs.size x y→h'.objs.size=s.heap.objs.size + 1 →
   (∀ c o,c≠z→c≠i1→c≠i2→s.heap.get? c=some o→h'.get? c=some o)→Q (.ref s.heap.objs.size) {s with heap:=h'}) :
  wpAny (model prog w) A (Builtin.«zip.__next__» ⟨[.ref z],[]⟩) (fun fin s'=>∃ v,fin=.done (.ret v)∧Q v s') E s:=by
 refine (?_:wpAny _ _ (field (.ref z) 2 >>= _) _ _ _);refine wpAny_bind (wpAny_field hz rfl (x:=.bool false) rfl ?_);refine (?_:wpAny _ _ (field (.ref z) 3 >>= _) _ _ _);refine wpAny_bind (wpAny_field hz rfl (x:=.ref TI) rfl ?_);refine wpAny_bind (wpAny_seqItems hTI rfl ?_);refine (?_:wpAny _ _ (Builtin.SmallTypes.ownedTupleIsFree (.ref z) >>= _) _ _ _);refine wpAny_bind (cR hz ha fun h₀ hz₀ hs₀=>?_);simp only [Bool.false_eq_true,if_false]
 have h1₀:=h1.extBut hs₀.extBut D.i1z;have h2₀:=h2.extBut hs₀.extBut D.i2z;have hl1₀:=hl1.extBut hs₀.extBut D.l1z;have hl2₀:=hl2.extBut hs₀.extBut D.l2z;refine wpAny_bind ?_;simp only [List.forIn_toArray,List.forIn_cons,List.forIn_nil]
 refine wpAny_bind (wpAny_bind (wpAny_holding ?_));refine (?_:wpAny _ _ (Builtin.SmallTypes.nextOf (.ref i1) >>= _) _ _ _);refine wpAny_bind (wpAny_nextOf_list_item h1₀ hl1₀ hx fun h₂ h1₂ hs₂=>wpAny_pure (wpAny_pure ?_));refine wpAny_bind (wpAny_bind (wpAny_holding ?_));refine (?_:wpAny _ _ (Builtin.SmallTypes.nextOf (.ref i2) >>= _) _ _ _);have h2₂:=h2₀.extBut hs₂.extBut D.i12.symm;have hl2₂:=hl2₀.extBut hs₂.extBut D.l2i1;refine wpAny_bind (wpAny_nextOf_list_item h2₂ hl2₂ hy fun h₄ h2₄ hs₄=>wpAny_pure (wpAny_pure (wpAny_pure ?_)));refine (?_:wpAny _ _ (newTuple [x,y] >>= _) _ _ _);refine wpAny_bind (wpAny_newTuple ?_);have hsz:h₄.objs.size=s.heap.objs.size:=by (refine rwg (hs₄.1 ..) ?_;refine rwg (hs₂.1 ..) ?_;refine rwg (hs₀.1 ..) ?_;rfl)
 have hz₄:=hs₄.extBut _ _ D.i2z.symm (hs₂.extBut _ _ D.i1z.symm hz₀);have h1₄:=h1₂.extBut hs₄.extBut D.i12;refine wpAny_pure (aA0 (_) (rfl) (?_));refine (?_:Q (.ref h₄.objs.size) _);have hf:=hQ (h₄.push {cls:=.type "tuple",data:=.seq #[x,y]}) (Heap.get?_push_of_some _ hz₄) (h1₄.at fun o e=>Heap.get?_push_of_some _ e) (h2₄.at fun o e=>Heap.get?_push_of_some _ e)
  (by refine rwb (hsz ..) ?_;exact Heap.get?_push_size _ rfl) (by (refine rwg (Heap.size_push ..) ?_;refine rwg (hsz ..) ?_;rfl))
  (fun c o c1 c2 c3 e=>Heap.get?_push_of_some _ (hs₄.extBut _ _ c3 (hs₂.extBut _ _ c2 (hs₀.extBut _ _ c1 e))))
 refine rwg (hsz ..) ?_;exact hf
theorem cB8 {z TI TO i1 i2 l1 l2 a:Addr} {f:Bool} {oa:Obj} {k1:Nat} {xs:Array Value} {Q:Fin→Shared→Prop} (hh:A.handled=none) (D:ZipApart z TI TO i1 i2 l1 l2)
  (hz:s.heap.get? z=some (cL8 TI TO (rawInt a) f)) (ha:s.heap.get? a=some oa) (hTI:IsPair s.heap TI (.ref i1) (.ref i2))
  (h1:s.heap.IsListIter i1 l1 k1) (hl1:s.heap.IsList l1 xs) (hx:xs[k1]?=none)
  (hE:∀ h' e,(∀ c o,c≠z→c≠i1→s.heap.get? c=some o→h'.get? c=some o)→(∃ o,h'.get? e=some o∧o.cls=.type "StopIteration")→E (.ref e) {s with heap:=h'}) :
  wpAny (model prog w) A (Builtin.«zip.__next__» ⟨[.ref z],[]⟩) Q E s:=by
 refine (?_:wpAny _ _ (field (.ref z) 2 >>= _) _ _ _);refine wpAny_bind (wpAny_field hz rfl (x:=.bool false) rfl ?_);refine (?_:wpAny _ _ (field (.ref z) 3 >>= _) _ _ _);refine wpAny_bind (wpAny_field hz rfl (x:=.ref TI) rfl ?_);refine wpAny_bind (wpAny_seqItems hTI rfl ?_);refine (?_:wpAny _ _ (Builtin.SmallTypes.ownedTupleIsFree (.ref z) >>= _) _ _ _);refine wpAny_bind (cR hz ha fun h₀ hz₀ hs₀=>?_);simp only [Bool.false_eq_true,if_false]
 refine wpAny_bind ?_;simp only [List.forIn_toArray,List.forIn_cons,List.forIn_nil]
 refine wpAny_bind (wpAny_bind (wpAny_holding ?_));refine (?_:wpAny _ _ (Builtin.SmallTypes.nextOf (.ref i1) >>= _) _ _ _);exact wpAny_bind (wpAny_nextOf_list_end hh (h1.extBut hs₀.extBut D.i1z) (hl1.extBut hs₀.extBut D.l1z) hx fun h₂ e hs₂ he=>hE h₂ e (fun c o c1 c2 x=>hs₂ _ _ c2 (hs₀.extBut _ _ c1 x)) he)
theorem bY3 {z TI TO i1 i2 l1 l2 a:Addr} {f:Bool} {oa:Obj} {k1 k2:Nat} {xs ys:Array Value} {x y:Value} {Q:Option Value→Shared→Prop} (D:ZipApart z TI TO i1 i2 l1 l2)
  (hz:s.heap.get? z=some (cL8 TI TO (rawInt a) f)) (ha:s.heap.get? a=some oa) (hTI:IsPair s.heap TI (.ref i1) (.ref i2))
  (h1:s.heap.IsListIter i1 l1 k1) (h2:s.heap.IsListIter i2 l2 k2) (hl1:s.heap.IsList l1 xs) (hl2:s.heap.IsList l2 ys) (hx:xs[k1]?=some x) (hy:ys[k2]?=some y)
  (hQ:∀ h',h'.get? z=some (cL8 TI TO (rawInt a) true)→h'.IsListIter i1 l1 (k1 + 1)→h'.IsListIter i2 l2 (k2 + 1)→IsPair h' s.heap.objs.size x y→h'.objs.size=s.heap.objs.size + 1 →
   (∀ c o,c≠z→c≠i1→c≠i2→s.heap.get? c=some o→h'.get? c=some o)→Q (some (.ref s.heap.objs.size)) {s with heap:=h'}) :
  wpAny (model prog w) A (pyNext (.ref z)) Q E s:=by
 have hT:s.TypeIs (.ref z) "zip":=(aA0 (_) (hz) (rfl));exact wpAny_bind (wpAny_attempt (wpAny_callSpecial?_slot (name:=ofString "__next__") hT PySem.F.slot_zip_next
  (wpAny_call_entry PySem.F.slot_zip_next hT PySem.F.entry_zip_next
   (bX D hz ha hTI h1 h2 hl1 hl2 hx hy fun h' a1 a3 a4 a5 a6 a7=>wpAny_pure (hQ h' a1 a3 a4 a5 a6 a7)) (PySem.F.args_zip_next_1 _))))
theorem bY5 {z TI TO i1 i2 l1 l2 a:Addr} {f:Bool} {oa:Obj} {k1:Nat} {xs:Array Value} {Q:Option Value→Shared→Prop} (hh:A.handled=none) (D:ZipApart z TI TO i1 i2 l1 l2)
  (hz:s.heap.get? z=some (cL8 TI TO (rawInt a) f)) (ha:s.heap.get? a=some oa) (hTI:IsPair s.heap TI (.ref i1) (.ref i2))
  (h1:s.heap.IsListIter i1 l1 k1) (hl1:s.heap.IsList l1 xs) (hx:xs[k1]?=none)
  (hQ:∀ h',(∀ c o,c≠z→c≠i1→s.heap.get? c=some o→h'.get? c=some o)→Q none {s with heap:=h'}) :
  wpAny (model prog w) A (pyNext (.ref z)) Q E s:=by
 have hT:s.TypeIs (.ref z) "zip":=(aA0 (_) (hz) (rfl));refine wpAny_bind (wpAny_attempt (wpAny_callSpecial?_slot (name:=ofString "__next__") hT PySem.F.slot_zip_next
  (wpAny_call_entry PySem.F.slot_zip_next hT PySem.F.entry_zip_next (cB8 hh D hz ha hTI h1 hl1 hx fun h' e hk he=>?_) (PySem.F.args_zip_next_1 _))))
 (refine aA3 he ?_;clear he;intro o ho hc)
 refine wpAny_bind (wpAny_isInstance (T:="StopIteration") (b:=true) (aA0 (o) (ho) (hc)) isSubtype_stop ?_);exact wpAny_pure (hQ _ hk)
theorem bV6:typeLookup (.type "zip") "__len__"=pure none:=by (refine rwg (typeLookup_type ..) ?_;refine rwg (builtinLookup_eq_fast ..) ?_);kernel_rfl
theorem bO1:typeLookup (.type "zip") "__length_hint__"=pure none:=by (refine rwg (typeLookup_type ..) ?_;refine rwg (builtinLookup_eq_fast ..) ?_);kernel_rfl
end
structure ZB (h:Heap) (TI TO i1 i2 l1 l2:Addr) (i:Nat) (xs ys:Array Value):Prop where
 ti:IsPair h TI (.ref i1) (.ref i2)
 to:∃ a b,IsPair h TO a b
 i1:h.IsListIter i1 l1 i
 i2:h.IsListIter i2 l2 i
 l1:h.IsList l1 xs
 l2:h.IsList l2 ys
theorem ZB.keep {h h':Heap} {TI TO i1 i2 l1 l2 S:Addr} {i:Nat} {xs ys:Array Value} (z:ZB h TI TO i1 i2 l1 l2 i xs ys) (hk:∀ b o,b≠S→h.get? b=some o→h'.get? b=some o)
  (h1:TI < S) (h2:TO < S) (h3:i1 < S) (h4:i2 < S) (h5:l1 < S) (h6:l2 < S):ZB h' TI TO i1 i2 l1 l2 i xs ys :=
 ⟨hk _ _ (ne_of_lt h1) z.ti,let ⟨a,b,e⟩:=z.to;⟨a,b,hk _ _ (ne_of_lt h2) e⟩,z.i1.at fun o e=>hk _ _ (ne_of_lt h3) e,z.i2.at fun o e=>hk _ _ (ne_of_lt h4) e,
 z.l1.at fun o e=>hk _ _ (ne_of_lt h5) e,z.l2.at fun o e=>hk _ _ (ne_of_lt h6) e⟩
noncomputable def ZH (h:Heap) (z TI TO S:Addr):Prop:=IsZip h z TI TO .none∨∃ (a:Addr) (f:Bool) (oa:Obj),h.get? z=some (cL8 TI TO (rawInt a) f)∧h.get? a=some oa∧S < a
theorem ZH.keep {h h':Heap} {z TI TO S:Addr} (x:ZH h z TI TO S) (hk:∀ b o,b≠S→h.get? b=some o→h'.get? b=some o) (hz:z < S):ZH h' z TI TO S:=by
 rcases x with h1 | ⟨a,f,oa,h1,h2,h3⟩
 ·exact .inl (hk _ _ (ne_of_lt hz) h1)
 ·exact .inr ⟨a,f,oa,hk _ _ (ne_of_lt hz) h1,hk _ _ (ne_of_gt h3) h2,h3⟩
section
variable {prog:Program} {w:World} {A:Around} {E:Value→Shared→Prop} {s:Shared}
theorem z_item {z TI TO i1 i2 l1 l2 S:Addr} {i:Nat} {xs ys:Array Value} {x y:Value} {Q:Option Value→Shared→Prop} (D:ZipApart z TI TO i1 i2 l1 l2)
  (hz:ZH s.heap z TI TO S) (B:ZB s.heap TI TO i1 i2 l1 l2 i xs ys) (hS:S < s.heap.objs.size) (hg:∀ {a:Addr},S < a→a≠z∧a≠TO∧a≠i1∧a≠i2) (hx:xs[i]?=some x) (hy:ys[i]?=some y)
  (hQ:∀ h',ZH h' z TI TO S→ZB h' TI TO i1 i2 l1 l2 (i + 1) xs ys→IsPair h' s.heap.objs.size x y→(∀ c o,c≠z→c≠TO→c≠i1→c≠i2→s.heap.get? c=some o→h'.get? c=some o)→Q (some (.ref s.heap.objs.size)) {s with heap:=h'}) :
  wpAny (model prog w) A (pyNext (.ref z)) Q E s:=by
 refine hide fun G_ k_=>?_;obtain ⟨ti,⟨a,b,to⟩,b1,b2,b3,b4⟩:=B;refine k_ ?_;rcases hz with h1 | ⟨a',f,oa,h1,h2,h3⟩
 ·exact wpAny_pyNext_zip_item D h1 ti to b1 b2 b3 b4 hx hy fun h' a1 a2 a3 a4 a5 a6 hk=>hQ h' (.inr ⟨_,false,_,a1,a5,hS⟩)
   ⟨hk _ _ D.TIz D.TITO D.TIi1 D.TIi2 ti,(aT2 (_) (_) (a2)),a3,a4,b3.at fun o e=>hk _ o D.l1z D.l1TO D.l1i1 D.l1i2 e,b4.at fun o e=>hk _ o D.l2z D.l2TO D.l2i1 D.l2i2 e⟩ a5 hk
 ·exact bY3 D h1 h2 ti b1 b2 b3 b4 hx hy fun h' a1 a3 a4 a5 a6 hk=>hQ h' (.inr ⟨_,true,_,a1,hk _ _ (hg h3).1 (hg h3).2.2.1 (hg h3).2.2.2 h2,h3⟩)
   ⟨hk _ _ D.TIz D.TIi1 D.TIi2 ti,(aT2 (_) (_) (hk _ _ D.TOz D.TOi1 D.TOi2 to)),a3,a4,b3.at fun o e=>hk _ o D.l1z D.l1i1 D.l1i2 e,b4.at fun o e=>hk _ o D.l2z D.l2i1 D.l2i2 e⟩ a5 (fun c o c1 u_ c3 c4 e=>hk c o c1 c3 c4 e)
theorem z_done {z TI TO i1 i2 l1 l2 S:Addr} {i:Nat} {xs ys:Array Value} {Q:Option Value→Shared→Prop} (hh:A.handled=none) (D:ZipApart z TI TO i1 i2 l1 l2)
  (hz:ZH s.heap z TI TO S) (B:ZB s.heap TI TO i1 i2 l1 l2 i xs ys) (hx:xs[i]?=none)
  (hQ:∀ h',(∀ c o,c≠z→c≠TO→c≠i1→c≠i2→s.heap.get? c=some o→h'.get? c=some o)→Q none {s with heap:=h'}) :
  wpAny (model prog w) A (pyNext (.ref z)) Q E s:=by
 refine hide fun G_ k_=>?_;obtain ⟨ti,⟨a,b,to⟩,b1,b2,b3,b4⟩:=B;refine k_ ?_;rcases hz with h1 | ⟨a',f,oa,h1,h2,h3⟩
 ·exact wpAny_pyNext_zip_end hh D h1 ti to b1 b2 b3 b4 (.inl hx) hQ
 ·exact bY5 hh D h1 h2 ti b1 b3 hx fun h' hk=>hQ h' fun c o c1 u_ c3 u_ e=>hk c o c1 c3 e
end
noncomputable def ZG (h:Heap) (S:Addr) (xs ys:Array Value) (as:List Addr):Prop:=as.Pairwise (· < ·)∧(∀ a∈as,S < a)∧∀ (j:Nat) (a:Addr),as[j]?=some a→∃ x y,xs[j]?=some x∧ys[j]?=some y∧IsPair h a x y
section
variable {prog:Program} {w:World} {A:Around} {s:Shared} {R:Result→Shared→Prop} {xs ys:Array Value}
theorem z_loop {S z TI TO i1 i2 l1 l2:Addr} (hh:A.handled=none) (D:ZipApart z TI TO i1 i2 l1 l2) (hzS:z < S) (h1:TI < S) (h2:TO < S) (h3:i1 < S) (h4:i2 < S) (h5:l1 < S) (h6:l2 < S)
  (hn:xs.size≤sizeLine) (hxy:xs.size=ys.size) (res:Value) {h₁:Heap}
  (hR:∀ h' tk acc c as,(∀ b o,b≠S→b≠z→b≠TO→b≠i1→b≠i2→h₁.get? b=some o→h'.get? b=some o)→h'.get? S=some {cls:=.type "list",dict:=none,data:=.seq acc c,slots:=#[]}→as.length=xs.size→ZG h' S xs ys as →
   acc.toList=as.map Value.ref→R (.ok (.ret res)) {s with heap:=h',toks:=tk}) :
  ∀ (k i:Nat) (h:Heap) (tk c:Nat) (acc:Array Value) (as:List Addr),xs.size - i=k→i≤xs.size→ZH h z TI TO S→ZB h TI TO i1 i2 l1 l2 i xs ys→(∀ b o,b≠S→b≠z→b≠TO→b≠i1→b≠i2→h₁.get? b=some o→h.get? b=some o) →
   h.get? S=some {cls:=.type "list",dict:=none,data:=.seq acc c,slots:=#[]}→acc.toList=as.map Value.ref→as.length=i→ZG h S xs ys as →
   codeAny (model prog w) A (.builtin "list.extend.loop" ⟨[.ref S,.ref z,res],[]⟩) R {s with heap:=h,toks:=tk}:=by
 intro k;have gap:∀ {a:Addr},S < a→a≠z∧a≠TO∧a≠i1∧a≠i2:=fun h=>⟨ne_of_gt (lt_trans hzS h),ne_of_gt (lt_trans h2 h),ne_of_gt (lt_trans h3 h),ne_of_gt (lt_trans h4 h)⟩;have gS:S≠z∧S≠TO∧S≠i1∧S≠i2:=⟨ne_of_gt hzS,ne_of_gt h2,ne_of_gt h3,ne_of_gt h4⟩
 induction k with
 | zero =>
  intro i h tk c acc as hk hi hst hD hkeep hS hacc hal hG;have hin:i=xs.size:=by lia
  refine codeAny_builtin PySem.F.entry_extend_loop ?_;refine rwg (Around.under_plainId PySem.F.plain_extend_loop _ ..) ?_;refine (?_:wpAny _ A.in1 (pyNext (.ref z) >>= _) _ _ _);refine wpAny_bind (z_done (s:={s with heap:=h,toks:=tk}) (A:=A.in1) hh D hst hD (by refine rwg (hin ..) ?_;exact Array.getElem?_eq_none (le_refl _)) fun h' he=>?_);refine wpAny_pure (hR h' tk acc c as (fun b o g1 g2 g3 g4 g5 e=>he b o g2 g3 g4 g5 (hkeep b o g1 g2 g3 g4 g5 e)) (he S _ gS.1 gS.2.1 gS.2.2.1 gS.2.2.2 hS) (by lia) ⟨hG.1,hG.2.1,fun j a hj=>?_⟩ hacc);(refine aD1 (hG.2.2 j a hj) ?_;intro x y e1 e2 e3)
  have g:=gap (hG.2.1 a (mem_of_getElem? hj));exact ⟨x,y,e1,e2,he a _ g.1 g.2.1 g.2.2.1 g.2.2.2 e3⟩
 | succ k ih =>
  intro i h tk c acc as hk hi hst hD hkeep hS hacc hal hG;have hlt:i < xs.size:=by (clear hh hzS h1 h2 h3 h4 h5 h6 hn hxy gS hi hS hacc hal;omega)
  have hlty:i < ys.size:=by lia
  have hsz:acc.size=i:=by (refine rwb (Array.length_toList ..) ?_;refine rwg (hacc ..) ?_;refine rwg (length_map ..) ?_;refine rwg (hal ..) ?_;rfl)
  refine codeAny_builtin PySem.F.entry_extend_loop ?_;refine rwg (Around.under_plainId PySem.F.plain_extend_loop _ ..) ?_;refine (?_:wpAny _ A.in1 (pyNext (.ref z) >>= _) _ _ _);refine wpAny_bind (z_item (s:={s with heap:=h,toks:=tk}) (S:=S) D hst hD (Heap.lt_size hS) gap (Array.getElem?_eq_getElem hlt) (Array.getElem?_eq_getElem hlty) fun h' hst' hD' ht hkp=>?_);dsimp only at ht hkp ⊢
  have hS':=hkp S _ gS.1 gS.2.1 gS.2.2.1 gS.2.2.2 hS;have up:∀ b o,b≠S→h'.get? b=some o→(h'.update S (Obj.mapSeq (·.push (Value.ref h.objs.size)))).get? b=some o:=fun b o hb e=>(Heap.get?_update_other _ _ (Ne.symm hb)).trans e;have hSl:S < h.objs.size:=Heap.lt_size hS;refine (?_:wpAny _ A.in1 (updateSeq S (·.push (Value.ref h.objs.size)) >>= _) _ _ _);refine wpAny_bind ?_;refine wpAny_updateSeq hS' rfl (wpAny_pure ⟨plainId_quiet PySem.F.plain_extend_loop _,ih (i + 1) _ tk _ (acc.push (Value.ref h.objs.size)) (as++[h.objs.size]) (by (clear hh hzS h1 h2 h3 h4 h5 h6 hn hxy gS hi hS hacc hal hsz hS' hSl;lia)) hlt (hst'.keep up hzS) (hD'.keep up h1 h2 h3 h4 h5 h6)
   (fun b o g1 g2 g3 g4 g5 e=>up b o g1 (hkp b o g2 g3 g4 g5 (hkeep b o g1 g2 g3 g4 g5 e))) (Heap.get?_update_self _ hS' rfl) (by (refine rwg (Array.toList_push ..) ?_;refine rwg (hacc ..) ?_;refine rwg (map_append ..) ?_);rfl) (by (refine rwg (List.length_append ..) ?_;refine rwg (hal ..) ?_);rfl) ⟨?_,?_,?_⟩⟩) (by refine rwg (hsz ..) ?_;(clear hh hzS h1 h2 h3 h4 h5 h6 hxy gS hk hi hS hacc hal hsz hS' hSl;lia)) (by refine (?_:(acc.push (Value.ref h.objs.size)).size≤sizeLine + 1);(refine rwg (Array.size_push ..) ?_;refine rwg (hsz ..) ?_);(clear hh hzS h1 h2 h3 h4 h5 h6 hxy gS hk hi hS hacc hal hsz hS' hSl;lia))
  ·refine List.pairwise_append.mpr ⟨hG.1,List.pairwise_singleton _ _,fun a ha b hb=>?_⟩;refine rwg (mem_singleton.mp hb ..) ?_;(refine aJ9 (List.mem_iff_getElem?.mp ha) ?_;intro j hj)
   (refine aD1 (hG.2.2 j a hj) ?_;intro _ _ _ _ e)
   exact Heap.lt_size e
  ·intro a ha;rcases mem_append.mp ha with ha | ha
   ·exact hG.2.1 a ha
   ·refine rwg (mem_singleton.mp ha ..) ?_;exact hSl
  ·intro j b hj;rcases Nat.lt_trichotomy j as.length with g1 | g1 | g1
   ·replace hj:=(getElem?_append_left g1 ..)▸hj;(refine aD1 (hG.2.2 j b hj) ?_;intro x' y' e1 e2 e3)
    have hb:=hG.2.1 b (mem_of_getElem? hj);have g:=gap hb;exact ⟨x',y',e1,e2,up b _ (ne_of_gt hb) (hkp b _ g.1 g.2.1 g.2.2.1 g.2.2.2 e3)⟩
   ·subst g1;have hb:h.objs.size=b:=by simpa using hj
    clear hj;subst hb;exact ⟨_,_,by refine rwg (hal ..) ?_;exact Array.getElem?_eq_getElem hlt,by refine rwg (hal ..) ?_;exact Array.getElem?_eq_getElem hlty,up _ _ (ne_of_gt hSl) ht⟩
   ·have hnone:(as++[h.objs.size])[j]?=none:=List.getElem?_eq_none (by (refine rwg (List.length_append ..) ?_;refine rwg (length_singleton ..) ?_);(clear hh hzS h1 h2 h3 h4 h5 h6 hn hxy gS hk hi hS hacc hal hsz hS' hSl hj;lia));replace hj:=(hnone ..)▸hj;cases hj
end
section
variable {prog:Program} {w:World} {A:Around} {E:Value→Shared→Prop} {s:Shared} {z TI TO i1 i2 l1 l2:Addr} {xs ys:Array Value}
theorem z_hint {r:Addr} (hT:s.TypeIs (.ref r) "zip") {Q:Bool→Shared→Prop} (h:∀ b,Q b s):wpAny (model prog w) A (Builtin.List.listLengthHint (.ref r)) Q E s:=by
 refine wpAny_bind (wpAny_specialOf hT bV6 ?_);refine (?_:wpAny _ _ (specialOf (Value.ref r) (ofString "__length_hint__") >>= _) _ _ _);refine wpAny_bind (wpAny_specialOf hT bO1 ?_);exact wpAny_pure (h _)
theorem cO0 {R:Result→Shared→Prop} (hh:A.handled=none) (D:ZipApart z TI TO i1 i2 l1 l2) (S:Addr) (hzS:z < S) (h1:TI < S) (h2:TO < S) (h3:i1 < S) (h4:i2 < S) (h5:l1 < S) (h6:l2 < S)
  (hn:xs.size≤sizeLine) (hxy:xs.size=ys.size) (res:Value) (c₀:Nat) (hz:IsZip s.heap z TI TO .none) (B:ZB s.heap TI TO i1 i2 l1 l2 0 xs ys) (hS:s.heap.get? S=some {cls:=.type "list",data:=.seq #[] c₀})
  (hR:∀ h' tk acc c as,(∀ b o,b≠S→b≠z→b≠TO→b≠i1→b≠i2→s.heap.get? b=some o→h'.get? b=some o)→h'.get? S=some {cls:=.type "list",dict:=none,data:=.seq acc c,slots:=#[]}→as.length=xs.size→ZG h' S xs ys as →
   acc.toList=as.map Value.ref→R (.ok (.ret res)) {s with heap:=h',toks:=tk}) :
  wpAny (model prog w) A.in1 (Builtin.List.listExtendWith (.ref S) (.ref z) res)
   (fun fin s'=>match fin with | .done f=>R (.ok f) s' | .again c'=>c'.quiet=true∧codeAny (model prog w) A c' R s') (fun e s'=>R (.error e) s') s:=by
 have key:∀ (h:Heap) (c₁ tk:Nat),(∀ b o,b≠S→s.heap.get? b=some o→h.get? b=some o) →
   h.get? S=some {cls:=.type "list",data:=.seq #[] c₁}→codeAny (model prog w) A (.builtin "list.extend.loop" ⟨[.ref S,.ref z,res],[]⟩) R {s with heap:=h,toks:=tk}:=by
  intro h c₁ tk hk hS₁;exact z_loop (s:=s) (h₁:=s.heap) hh D hzS h1 h2 h3 h4 h5 h6 hn hxy res hR xs.size 0 h tk c₁ #[] [] (Nat.sub_zero _) (zero_le _) (.inl (hk _ _ (ne_of_lt hzS) hz)) (B.keep hk h1 h2 h3 h4 h5 h6) (fun b o g1 u_ u_ u_ u_ e=>hk b o g1 e) hS₁ rfl rfl
   ⟨List.Pairwise.nil,(fun u_ ha=>nomatch ha),(fun j a hj=>by simp at hj)⟩
 have hT:s.TypeIs (.ref z) "zip":=(aA0 (_) (hz) (rfl));refine wpAny_bind (wpAny_typeOf (T:="zip") hT ?_);have g1:Builtin.List.listSameRef (.ref S) (.ref z)=false:=by simp [Builtin.List.listSameRef,ne_of_gt hzS]
 have g2:(Value.type "zip"==Value.type "list")=false:=by decide
 have g3:(Value.type "zip"==Value.type "tuple")=false:=by decide
 simp only [g1,g2,g3,Bool.or_false,Bool.false_eq_true,if_false]
 refine wpAny_bind (wpAny_pyIter_zip hz ?_);refine wpAny_bind (wpAny_holding (z_hint hT fun b=>?_));refine wpAny_ite_split (fun u_=>?_) (fun u_=>wpAny_pure ⟨plainId_quiet PySem.F.plain_extend_loop _,key _ c₀ _ (fun b o u_ e=>e) hS⟩);refine wpAny_bind (wpAny_rule ?_);refine wpAny_bind ?_;refine (?_:wpAny _ _ (updateSeq S (·.push .none) >>= fun u_=>updateSeq S (·.pop)) _ _ _);refine wpAny_bind (wpAny_updateSeq hS rfl ?_);have hS₂:=Heap.get?_update_self (Obj.mapSeq (·.push Value.none)) hS rfl;refine wpAny_updateSeq (hz:=by seq_fits) hS₂ rfl ?_;have hS₃:=Heap.get?_update_self (Obj.mapSeq (·.pop)) hS₂ rfl;refine wpAny_pure ⟨plainId_quiet PySem.F.plain_extend_loop _,key _ _ _ (fun b o hb e=>?_) hS₃⟩;exact (Heap.get?_update_other _ _ (Ne.symm hb)).trans ((Heap.get?_update_other _ _ (Ne.symm hb)).trans e)
theorem z_init {R:Result→Shared→Prop} (hh:A.handled=none) (D:ZipApart z TI TO i1 i2 l1 l2) (S:Addr) (hzS:z < S) (h1:TI < S) (h2:TO < S) (h3:i1 < S) (h4:i2 < S) (h5:l1 < S) (h6:l2 < S)
  (hn:xs.size≤sizeLine) (hxy:xs.size=ys.size) (hz:IsZip s.heap z TI TO .none) (B:ZB s.heap TI TO i1 i2 l1 l2 0 xs ys) (hS:s.heap.get? S=some {cls:=.type "list",data:=.seq #[]})
  (hR:∀ h' tk acc c as,(∀ b o,b≠S→b≠z→b≠TO→b≠i1→b≠i2→s.heap.get? b=some o→h'.get? b=some o)→h'.get? S=some {cls:=.type "list",dict:=none,data:=.seq acc c,slots:=#[]}→as.length=xs.size→ZG h' S xs ys as →
   acc.toList=as.map Value.ref→R (.ok (.ret .none)) {s with heap:=h',toks:=tk}) :
  wpAny (model prog w) A.in1 (Builtin.«list.__init__» ⟨[.ref S,.ref z],[]⟩)
   (fun fin s'=>match fin with | .done f=>R (.ok f) s' | .again c'=>c'.quiet=true∧codeAny (model prog w) A c' R s') (fun e s'=>R (.error e) s') s:=by
 refine (?_:wpAny _ _ (do let old ← Builtin.List.listItems (.ref S);Builtin.List.listUpdate (.ref S) (fun u_=>#[]);letGo old.toList.reverse;Builtin.List.listExtendWith (.ref S) (.ref z) .none) _ _ s);refine wpAny_bind ?_;refine wpAny_bind (wpAny_seqItems hS rfl (wpAny_pure ?_));refine (?_:wpAny _ _ (updateSeq S (fun u_=>#[]) >>= fun u_=>letGo (#[]:Array Value).toList.reverse >>= fun u_=>Builtin.List.listExtendWith (.ref S) (.ref z) .none) _ _ s);refine wpAny_bind (wpAny_updateSeq hS rfl ?_);have hS₂:=Heap.get?_update_self (Obj.mapSeq (fun u_=>(#[]:Array Value))) hS rfl;have oth:∀ b o,b≠S→s.heap.get? b=some o→(s.heap.update S (Obj.mapSeq (fun u_=>(#[]:Array Value)))).get? b=some o :=
  fun b o hb e=>(Heap.get?_update_other _ _ (Ne.symm hb)).trans e
 refine wpAny_bind (wpAny_letGo ?_);exact cO0 hh D S hzS h1 h2 h3 h4 h5 h6 hn hxy .none _ (oth _ _ (ne_of_lt hzS) hz) (B.keep oth h1 h2 h3 h4 h5 h6) hS₂ (fun h' tk acc c as hk hS' hl hG hacc =>
  hR h' tk acc c as (fun b o g1 g2 g3 g4 g5 e=>hk b o g1 g2 g3 g4 g5 (oth b o g1 e)) hS' hl hG hacc)
theorem cO4 {Q:Value→Shared→Prop} (hh:A.handled=none) (D:ZipApart z TI TO i1 i2 l1 l2) (hn:xs.size≤sizeLine) (hxy:xs.size=ys.size) (hz:IsZip s.heap z TI TO .none) (B:ZB s.heap TI TO i1 i2 l1 l2 0 xs ys)
  (hQ:∀ h' tk acc c as,(∀ b o,b≠z→b≠TO→b≠i1→b≠i2→s.heap.get? b=some o→h'.get? b=some o)→h'.get? s.heap.objs.size=some {cls:=.type "list",dict:=none,data:=.seq acc c,slots:=#[]}→as.length=xs.size→ZG h' s.heap.objs.size xs ys as →
   acc.toList=as.map Value.ref→Q (.ref s.heap.objs.size) {s with heap:=h',toks:=tk}) :
  wpAny (model prog w) A (call (.type "list") [.ref z]) Q E s:=by
 refine callType_codes (Q₁:=fun obj s₁=>obj=.ref s.heap.objs.size∧s₁={s with heap:=s.heap.push {cls:=.type "list",data:=.seq #[]}}) PySem.F.called_list (PySem.F.typeCall_list_1 _) PySem.F.entry_list_init
  (code_list_new _ ⟨rfl,rfl⟩) fun obj s₁ h₁=>?_
 refine hide fun G_ k_=>?_;(refine aE8 h₁ ?_;clear h₁;intro eo0 eo1;subst eo0;subst eo1)
 have hS:(s.heap.push {cls:=.type "list",data:=.seq #[]}).get? s.heap.objs.size=some {cls:=.type "list",data:=.seq #[]}:=Heap.get?_push_size _ rfl;(refine aS2 (And.intro B.to (And.intro B.i1 (And.intro B.i2 (And.intro B.l1 B.l2)))) ?_;intro no0 bi1 bi2 bl1 bl2;obtain ⟨b0,q0,to⟩:=no0)
 refine k_ ?_;have li1:i1 < s.heap.objs.size:=by (refine aA3 bi1 ?_;clear bi1;intro _ e _);exact Heap.lt_size e
 have li2:i2 < s.heap.objs.size:=by (refine aA3 bi2 ?_;clear bi2;intro _ e _);exact Heap.lt_size e
 have ll1:l1 < s.heap.objs.size:=by (refine aA3 bl1 ?_;clear bl1;intro _ e _);exact Heap.lt_size e
 have ll2:l2 < s.heap.objs.size:=by (refine aA3 bl2 ?_;clear bl2;intro _ e _);exact Heap.lt_size e
 have kp:∀ b o,b≠s.heap.objs.size→s.heap.get? b=some o→(s.heap.push {cls:=.type "list",data:=.seq #[]}).get? b=some o:=fun b o u_ e=>Heap.get?_push_of_some _ e;refine ⟨(aA0 (_) (hS) (rfl)),PySem.F.args_list_init_2 _ _,z_init (A:=A.in1) hh D _ (Heap.lt_size hz) (Heap.lt_size B.ti) (Heap.lt_size to) li1 li2 ll1 ll2 hn hxy (Heap.get?_push_of_some _ hz) (B.keep kp (Heap.lt_size B.ti) (Heap.lt_size to) li1 li2 ll1 ll2) hS (fun h' tk acc c as hk hS' hl hG hacc=>?_)⟩;exact ⟨rfl,hQ h' tk acc c as (fun b o g2 g3 g4 g5 e=>hk b o (ne_of_lt (Heap.lt_size e)) g2 g3 g4 g5 (Heap.get?_push_of_some _ e)) hS' hl hG hacc⟩
end
section
variable {prog:Program} {w:World} {A:Around} {E:Value→Shared→Prop} {s:Shared} {z TI TO i1 i2 l1 l2:Addr} {h₀ h₁:Heap} {L:Addr} {m:Str→Option Value} {news:List (Addr × Obj)}
noncomputable abbrev aR9 (a b:Value):Obj:={cls:=.type "tuple",data:=.seq #[a,b]}
theorem cC1 {x1 x2 x3 x4 y1 y2 y3 y4:Value} {Q:Value→Shared→Prop} (hh:A.handled=none) (D:ZipApart z TI TO i1 i2 l1 l2)
  (Z:IsZip s.heap z TI TO .none∧IsPair s.heap TI (.ref i1) (.ref i2)∧(∃ a b,IsPair s.heap TO a b)∧s.heap.IsListIter i1 l1 0∧s.heap.IsListIter i2 l2 0∧s.heap.IsList l1 #[x1,x2,x3,x4]∧s.heap.IsList l2 #[y1,y2,y3,y4])
  (F:Fr h₀ L h₁ m) (N:News h₀ L h₁ news) (hk:∀ b o,h₁.get? b=some o→s.heap.get? b=some o)
  (kz:h₁.objs.size≤z) (kTO:h₁.objs.size≤TO) (k1:h₁.objs.size≤i1) (k2:h₁.objs.size≤i2)
  (hQ:∀ h' tk c B a1 a2 a3 a4,Fr h₀ L h' m→News h₀ L h' ((B,W.listOf #[.ref a1,.ref a2,.ref a3,.ref a4] c)::(a1,aR9 x1 y1)::(a2,aR9 x2 y2)::(a3,aR9 x3 y3)::(a4,aR9 x4 y4)::news) →
   (∀ q∈news,q.1 < B)→B < a1→a1 < a2→a2 < a3→a3 < a4→Q (.ref B) {s with heap:=h',toks:=tk}) :
  wpAny (model prog w) A (call (.type "list") [.ref z]) Q E s:=by
 refine hide fun G_ k_=>?_;(refine cI7 Z ?_;clear Z;intro hz ti to b1 b2 bl1 bl2)
 refine k_ ?_;refine cO4 (xs:=#[x1,x2,x3,x4]) (ys:=#[y1,y2,y3,y4]) hh D (by refine rwg (sizeLine_eq ..) ?_;refine (?_:(4:Nat)≤16777216);decide) rfl hz ⟨ti,to,b1,b2,bl1,bl2⟩ fun h' tk acc c as hk' hB hl hG hacc=>?_;refine hide fun G_ k_=>?_;(refine aP1 (bM8 hl) ?_;intro a1 a2 a3 a4 eo0;clear hl;subst eo0)
 refine k_ ?_;have key:∀ b o,h₁.get? b=some o→h'.get? b=some o:=fun b o e =>
  have hb:=Heap.lt_size e
  hk' b o (ne_of_lt (lt_of_lt_of_le hb kz)) (ne_of_lt (lt_of_lt_of_le hb kTO)) (ne_of_lt (lt_of_lt_of_le hb k1)) (ne_of_lt (lt_of_lt_of_le hb k2)) (hk b o e)
 have hle:h₁.objs.size≤s.heap.objs.size:=le_of_lt (Nat.lt_of_le_of_lt kz (Heap.lt_size hz));have ea:acc=#[Value.ref a1,.ref a2,.ref a3,.ref a4]:=by (refine rwb (Array.toArray_toList (xs:=acc) ..) ?_;refine rwg (hacc ..) ?_);rfl
 have fr:∀ {x:Addr},s.heap.objs.size≤x→x≠L∧h₀.get? x=none:=fun hx=>kdx_fresh F (le_trans hle hx);have g:=fun j a e=>hG.2.2 j a e;refine hide fun G_ k_=>?_;(refine aD1 (g 0 a1 rfl) ?_;intro _ _ e1 e2 t1)
 cases e1;cases e2
 (refine aD1 (g 1 a2 rfl) ?_;intro _ _ e1 e2 t2)
 cases e1;cases e2
 (refine aD1 (g 2 a3 rfl) ?_;intro _ _ e1 e2 t3)
 cases e1;cases e2
 (refine aD1 (g 3 a4 rfl) ?_;intro _ _ e1 e2 t4)
 cases e1;cases e2
 refine k_ ?_;have ab:=hG.2.1;have hp:=hG.1;simp only [List.pairwise_cons,mem_cons,not_mem_nil,or_false,forall_eq_or_imp,forall_eq] at hp ab
 refine hQ h' tk c _ a1 a2 a3 a4 (F.keeps key) (fun q hq=>?_) (fun q hq=>lt_of_lt_of_le (Heap.lt_size (N q hq).1) hle) ab.1 hp.1.1 hp.2.1.1 hp.2.2.1;simp only [mem_cons] at hq
 rcases hq with rfl | rfl | rfl | rfl | rfl | hq
 ·exact ⟨by refine rwb (ea ..) ?_;exact hB,fr (le_refl _)⟩
 ·exact ⟨t1,fr (le_of_lt ab.1)⟩
 ·exact ⟨t2,fr (le_of_lt ab.2.1)⟩
 ·exact ⟨t3,fr (le_of_lt ab.2.2.1)⟩
 ·exact ⟨t4,fr (le_of_lt ab.2.2.2)⟩
 ·exact ⟨key _ _ (N q hq).1,(N q hq).2⟩
end
end
section
variable {prog:Program} {w:World} {p:Program} {loose:List Str} {mean:ExcName→Option Value} {mg mb:Str→Option Value} {A:Around} {V:Vw} {m:Str→Option Value} {ρ:List Addr} {σ:St} {s:Shared} {env:Env} {G:Gx}
theorem glob_K {K:Frag} {h₀:Heap} {x:Str} {v:Value} {L:Addr} {Q:Value→Shared→Prop} {E:Value→Shared→Prop} {pos:Pos}
  (X:K.In h₀) (T:Top p loose mean mg mb h₀) (e1:env.globals=mainGlobals) (hk:env.scope.kind=.function) (e:nsIn K mainGlobals x=some (some v)) (hx:env.scope.names.lookup x=some .globalImplicit) (hd:(x==ofString "__debug__")=false) (F:Fr h₀ L s.heap m) (h:Q v s):wpAny (model prog w) A (eval (.Name x pos) env) Q E s :=
 Name_function_global hk hx (loadGlobal_global (by refine rwg (e1 ..) ?_;exact T.g.keeps F.keep) (mg_of X T.g e) h) hd
theorem cA0 {K:Frag} {h₀:Heap} {x:Str} {v:Value} {L:Addr} {Q:Value→Shared→Prop} {E:Value→Shared→Prop} {pos:Pos}
  (X:K.In h₀) (T:Top p loose mean mg mb h₀) (e1:env.globals=mainGlobals) (e2:env.builtins=builtinsNs) (hk:env.scope.kind=.function) (e:nsIn K mainGlobals x=some none) (hv:bootBuiltins x=some v) (hn:x≠"__name__") (hx:env.scope.names.lookup x=some .globalImplicit) (hd:(x==ofString "__debug__")=false) (F:Fr h₀ L s.heap m) (h:Q v s):wpAny (model prog w) A (eval (.Name x pos) env) Q E s :=
 Name_function_global hk hx (loadGlobal_builtin (by refine rwg (e1 ..) ?_;exact T.g.keeps F.keep) (mg_none_of X T.g e) (by refine rwg (e2 ..) ?_;exact T.b.keeps F.keep) ((T.builtins x hn).trans hv) h) hd
theorem bQ3 {l:List AV} {q:AV × AV × AV × AV} (h:bO6 l=some q):l=[q.1,q.2.1,q.2.2.1,q.2.2.2]:=by
 rcases l with _ | ⟨a,_ | ⟨b,_ | ⟨c,_ | ⟨d,_ | ⟨e,r⟩⟩⟩⟩⟩
 all_goals first | (cases h;rfl) | cases h
theorem evs_w {f:Expr→St→(AV→St→Prop)→Prop} {e1 e2:Expr} {σ:St} {K:List AV→St→Prop} (h:f e1 σ fun a σ1=>f e2 σ1 fun b σ2=>K [a,b] σ2):evs f [e1,e2] σ K:=by
 refine rwg (aU6 ..) ?_;refine cast (congrArg (f e1 σ) (funext fun a=>funext fun σ1=>?_)) h;refine rwg (aU6 ..) ?_;exact congrArg (f e2 σ1) (funext fun b=>funext fun σ2=>(evs_0 (K:=fun as σ2=>K (a::b::as) σ2)).symm)
theorem AllIs.head {β ρ:List Addr} {a:AV} {as:List AV} {vs:List Value} (i:AllIs β ρ (a::as) vs):∃ v r,vs=v::r∧a.Is β ρ v∧AllIs β ρ as r:=by
 cases i with | cons h t=>exact ⟨_,_,rfl,h,t⟩
theorem AllIs.nil_is {β ρ:List Addr} {vs:List Value} (i:AllIs β ρ [] vs):vs=[]:=by cases i;rfl
theorem cD3 {β ρ:List Addr} {a b:AV} {vs:List Value} (i:AllIs β ρ [a,b] vs):∃ x1 x2,vs=[x1,x2]∧a.Is β ρ x1∧b.Is β ρ x2:=by
 obtain ⟨x1,r,rfl,i1,i⟩:=i.head;obtain ⟨x2,r,rfl,i2,i⟩:=i.head;obtain rfl:=i.nil_is;exact ⟨_,_,rfl,i1,i2⟩
theorem cC2 {β ρ:List Addr} {a b c d:AV} {vs:List Value} (i:AllIs β ρ [a,b,c,d] vs):∃ x1 x2 x3 x4,vs=[x1,x2,x3,x4]∧a.Is β ρ x1∧b.Is β ρ x2∧c.Is β ρ x3∧d.Is β ρ x4:=by
 refine hide fun G_ k_=>?_;obtain ⟨x1,r,rfl,i1,i⟩:=i.head;obtain ⟨x2,r,rfl,i2,i⟩:=i.head;obtain ⟨x3,x4,rfl,i3,i4⟩:=cD3 i;refine k_ ?_;exact ⟨_,_,_,_,rfl,i1,i2,i3,i4⟩
theorem Pcs.newL {hw nw nn:List (Addr × Obj)} {aos:List AO} {h':Heap} (Pc:Pcs V σ m hw nw) (F':Fr V.h₀ V.L h' m) (N':News V.h₀ V.L h' (hw++(nw++nn))) (nd':((hw++(nw++nn)).map (·.1)).Nodup) (hl:aos.length=nn.length)
  (ob:∀ (j:Nat) (ao:AO) (c:Addr) (o:Obj),aos[j]?=some ao→nn[j]?=some (c,o)→ao.Is V.β ((nw++nn).map (·.1)) o):Rel V m ((nw++nn).map (·.1)) ⟨σ.loc,σ.obj++aos,σ.wd⟩ h':=by
 refine ⟨hw,nw++nn,rfl,F',N',Pc.hW,nd',by refine (?_:(σ.obj++aos).length=_);(refine rwg (List.length_append ..) ?_;refine rwg (List.length_append ..) ?_;refine rwg (Pc.len ..) ?_;refine rwg (hl ..) ?_;rfl),fun j ao c o q1 q2=>?_,fun y a' q=>?_,fun c hc=>?_⟩
 ·have q1:(σ.obj++aos)[j]?=some ao:=q1;by_cases hj:j < σ.obj.length
  ·rw [getElem?_append_left hj] at q1;rw [getElem?_append_left (Pc.len▸hj)] at q2;refine rwg (map_append ..) ?_;exact (Pc.ob j ao c o q1 q2).more _
  ·rw [getElem?_append_right (Nat.not_lt.mp hj)] at q1;rw [getElem?_append_right (Pc.len▸Nat.not_lt.mp hj),← Pc.len] at q2;exact ob _ ao c o q1 q2
 ·(refine aA3 (Pc.lo y a' q) ?_;intro v hv i)
  exact (aA0 (v) (hv) (by refine rwg (map_append ..) ?_;exact i.more _))
 ·(refine rwg (map_append ..) ?_;refine rwg (getElem?_append_left (List.getElem?_eq_some_iff.mp (Pc.ce c hc)).1 ..) ?_)
  exact Pc.ce c hc
theorem bP5 {β ρ:List Addr} {a b:AV} {x y:Value} (ha:a.Is β ρ x) (hb:b.Is β ρ y):(AO.tup [a,b]).Is β ρ (aR9 x y):=⟨rfl,[x,y],_,rfl,.cons ha (.cons hb .nil)⟩
theorem ld_ok {e:Expr} {K:AV→St→Prop} {Q:Value→Shared→Prop} {E:Value→Shared→Prop} (x:XM w p loose mean mg mb V.h₀) (a:AOk 1 A) (H:FOk G prog w A V env) (R:Rel V m ρ σ s.heap) (h:ldHk.exe G e σ K) (hQ:Res V m ρ s K Q):wpAny (model prog w) A (eval e env) Q E s:=by
 refine hide fun G_ k_=>?_;(refine bW h ?_;clear h;intro e1 e2 p1 p2 p3 p4 no0 h;obtain ⟨rfl,g1,g2,pl1,pl2⟩:=no0)
 refine k_ ?_;have hk:env.scope.kind=.function:=H.v.scope▸H.v.kind;have ⟨hw,nw,e0,F,N,Pc⟩:=R.pcs;refine Call_ (cA0 (v:=.type "list") x.X x.T H.v.gl H.v.bl hk (by with_unfolding_all rfl) (by decide +kernel) (by decide +kernel) (by refine rwg (H.v.scope ..) ?_;exact g1) (by decide +kernel) F ?_)
 suffices key:wpAny (model prog w) A (spliced (PySem.backTo p4 (starEach [.Call (.Name (ofString "zip") p2) [e1,e2] [] p3] env))) (fun vs s'=>keeps (model prog w) (.type "list") s'.heap∧wpAny (model prog w) A (call (.type "list") ([]++vs)) Q E s') E s by
  refine callWith_of (P:=fun h=>keeps (model prog w) (.type "list") h) rfl (fun u_ p=>p) ?_;rw [aG2 rfl] at key ⊢;exact evalArgs_plain key
 refine PyProof.Rows.args_cons ?_ (aG2 rfl [] env);refine Call_ (cA0 (v:=.type "zip") x.X x.T H.v.gl H.v.bl hk (by with_unfolding_all rfl) (by decide +kernel) (by decide +kernel) (by refine rwg (H.v.scope ..) ?_;exact g2) (by decide +kernel) F ?_);have ih:=aY3 20 G V env H.v;refine aG4 ih (args:=[e1,e2]) (Ks:=fun as σ2=>aB4 (cK5 as) fun q=>aB4 ((aB G σ2 q.1).bind bO6) fun xs=>aB4 ((aB G σ2 q.2).bind bO6) fun ys =>
  σ2.mkK (.tup [xs.1,ys.1]) fun k1 σ3=>σ3.mkK (.tup [xs.2.1,ys.2.1]) fun k2 σ4=>σ4.mkK (.tup [xs.2.2.1,ys.2.2.1]) fun k3 σ5=>σ5.mkK (.tup [xs.2.2.2,ys.2.2.2]) fun k4 σ6=>σ6.mkK (.list [.obj k1,.obj k2,.obj k3,.obj k4]) fun k=>K (.obj k)) R (by simp [pl1,pl2]) (evs_w h) fun as σ2 vs r1 h1 tk1 g1' R1 i1 k1=>⟨aD9 rfl,?_⟩
 refine hide fun G_ k_=>?_;(refine aA k1 ?_;intro no0 h2 k2;obtain ⟨ax,ay⟩:=no0)
 clear k1;obtain rfl:=aN0 h2;(refine aD1 (cD3 i1) ?_;intro v1 v2 eo0 ix iy;clear i1;subst eo0)
 (refine aA k2 ?_;intro xs hx k3)
 (refine aA k3 ?_;intro ys hy k4)
 clear k2 k3;(refine aA1 hx ?_;intro lx hlx hx)
 (refine aA1 hy ?_;intro ly hly hy)
 obtain rfl:=bQ3 hx;obtain rfl:=bQ3 hy;(refine aE H.v.gv R1 ix hlx ?_;intro l1 us eo0 hl1 j1;clear ix;subst eo0)
 (refine aE H.v.gv R1 iy hly ?_;intro l2 ws eo0 hl2 j2;clear iy;subst eo0)
 (refine aX1 (cC2 j1) ?_;intro x1 x2 x3 x4 eo0 a1 a2 a3 a4;clear j1;subst eo0)
 (refine aX1 (cC2 j2) ?_;intro y1 y2 y3 y4 eo0 b1 b2 b3 b4;clear j2;subst eo0)
 (refine R1.el ?_;intro hw1 nw1 e1' F1 N1 P1)
 refine k_ ?_;refine zip_rows (s:=⟨h1,g1'.1,s.drawn,tk1,s.os⟩) F1 hl1 hl2 fun h2 z TI TO i1 i2 D Z F2 hk2 q1 q2 q3 q4 u_=>?_;refine PyProof.Rows.args_nil ⟨aD9 rfl,?_⟩;refine cC1 (x1:=x1) (x2:=x2) (x3:=x3) (x4:=x4) (y1:=y1) (y2:=y2) (y3:=y3) (y4:=y4) H.v.g.hh D Z F1 N1 hk2 q1 q2 q3 q4 fun h3 tk3 c B t1 t2 t3 t4 F3 N3 w1 w2 w3 w4 w5=>?_;have k6:=aJ (aJ (aJ (aJ (aJ k4))));have g1:∀ j,[t1,t2,t3,t4,B][j]?=(nw1.map (·.1)++[t1,t2,t3,t4,B])[σ2.obj.length + j]?:=fun j=>by (refine rwg (getElem?_append_right (by rw [length_map,P1.len];(clear g1 g2 pl1 pl2 hk e0 hlx hx hly hy k_ e1' Z q1 q2 q3 q4 w2 w3 w4 w5;lia)) ..) ?_;refine rwg (length_map ..) ?_;refine rwg (P1.len ..) ?_;refine rwg (Nat.add_sub_cancel_left ..) ?_;rfl)
 have hr:∀ (j:Nat) c n,[t1,t2,t3,t4,B][j]?=some c→n=σ2.obj.length + j→(AV.obj n).Is V.β (nw1.map (·.1)++[t1,t2,t3,t4,B]) (.ref c):=fun j c n hc e=>(aA0 (c) (by (refine rwg (e ..) ?_;refine rwb (g1 ..) ?_);exact hc) (rfl));have em:(nw1++[(t1,aR9 x1 y1),(t2,aR9 x2 y2),(t3,aR9 x3 y3),(t4,aR9 x4 y4),(B,W.listOf #[.ref t1,.ref t2,.ref t3,.ref t4] c)]).map (·.1)=nw1.map (·.1)++[t1,t2,t3,t4,B]:=map_append;have ln:∀ (σ:St) (ao:AO),(σ.mk' ao).obj.length=σ.obj.length + 1:=fun σ ao=>List.length_append;have eS:∀ (a1 a2 a3 a4 a5:AO),((((σ2.mk' a1).mk' a2).mk' a3).mk' a4).mk' a5=⟨σ2.loc,σ2.obj++[a1,a2,a3,a4,a5],σ2.wd⟩:=fun a1 a2 a3 a4 a5=>by unfold St.mk';simp only [append_assoc,cons_append,nil_append]
 rw [eS] at k6;simp only [ln] at k6
 have R4:=P1.newL (nn:=[(t1,aR9 x1 y1),(t2,aR9 x2 y2),(t3,aR9 x3 y3),(t4,aR9 x4 y4),(B,W.listOf #[.ref t1,.ref t2,.ref t3,.ref t4] c)]) (aos:=[.tup [xs.1,ys.1],.tup [xs.2.1,ys.2.1],.tup [xs.2.2.1,ys.2.2.1],.tup [xs.2.2.2,ys.2.2.2],.list [.obj σ2.obj.length,.obj (σ2.obj.length + 1),.obj (σ2.obj.length + 1 + 1),.obj (σ2.obj.length + 1 + 1 + 1)]]) F3 (fun q hq=>?_) ?_ rfl fun j ao d o q1 q2=>?_
 ·rw [em,← e1',append_assoc] at R4;exact hQ _ _ _ (r1++[t1,t2,t3,t4,B]) h3 tk3 g1' R4 (by (refine rwb (append_assoc ..) ?_;refine rwg (e1' ..) ?_);exact hr 4 B _ rfl rfl) k6
 ·rcases mem_append.mp hq with hq | hq
  ·exact N3 q (.tail _ (.tail _ (.tail _ (.tail _ (.tail _ (mem_append_left _ hq))))))
  rcases mem_append.mp hq with hq | hq
  ·exact N3 q (.tail _ (.tail _ (.tail _ (.tail _ (.tail _ (mem_append_right _ hq))))))
  ·rcases mem_cons.mp hq with rfl | hq
   ·exact N3 _ (.tail _ (.head _))
   rcases mem_cons.mp hq with rfl | hq
   ·exact N3 _ (.tail _ (.tail _ (.head _)))
   rcases mem_cons.mp hq with rfl | hq
   ·exact N3 _ (.tail _ (.tail _ (.tail _ (.head _))))
   rcases mem_cons.mp hq with rfl | hq
   ·exact N3 _ (.tail _ (.tail _ (.tail _ (.tail _ (.head _)))))
   ·refine rwg (mem_singleton.mp hq ..) ?_;exact N3 _ (.head _)
 ·(refine rwb (append_assoc ..) ?_;refine rwg (map_append ..) ?_)
  refine nodup_append.mpr ⟨P1.nd,?_,fun b hb b' hb'=>?_⟩
  ·refine (?_:[t1,t2,t3,t4,B].Nodup);have u1:(@Ne Nat t1 t2):=ne_of_lt w3;simp only [nodup_cons,mem_cons,not_mem_nil,or_false,not_or,not_false_eq_true,nodup_nil,and_true]
   exact ⟨⟨ne_of_lt w3,ne_of_lt (lt_trans w3 w4),ne_of_lt (lt_trans w3 (lt_trans w4 w5)),ne_of_gt w2⟩,⟨ne_of_lt w4,ne_of_lt (lt_trans w4 w5),ne_of_gt (lt_trans w2 w3)⟩,⟨ne_of_lt w5,ne_of_gt (lt_trans w2 (lt_trans w3 w4))⟩,ne_of_gt (lt_trans w2 (lt_trans w3 (lt_trans w4 w5)))⟩
  ·refine hide fun G_ k_=>?_;(refine aA6 hb ?_;intro q hq eo0;clear hb;subst eo0)
   refine k_ ?_;have hlt:=w1 q hq;refine ne_of_lt (lt_of_lt_of_le hlt ?_);have hb':b'∈[t1,t2,t3,t4,B]:=hb';clear N3 g1 hr em;rcases mem_cons.mp hb' with rfl | hb'
   ·exact le_of_lt w2
   rcases mem_cons.mp hb' with rfl | hb'
   ·exact le_of_lt (lt_trans w2 w3)
   rcases mem_cons.mp hb' with rfl | hb'
   ·exact le_of_lt (lt_trans w2 (lt_trans w3 w4))
   rcases mem_cons.mp hb' with rfl | hb'
   ·exact le_of_lt (lt_trans w2 (lt_trans w3 (lt_trans w4 w5)))
   ·refine rwg (mem_singleton.mp hb' ..) ?_;exact le_refl _
 ·refine rwg (em ..) ?_;have m1:∀ {a:AV} {v:Value},a.Is V.β (ρ++r1) v→a.Is V.β (nw1.map (·.1)++[t1,t2,t3,t4,B]) v:=fun h=>by rw [e1'] at h;exact h.more _
  rcases j with _ | _ | _ | _ | _ | j
  ·obtain rfl:=Option.some.inj q1;cases q2;exact bP5 (m1 a1) (m1 b1)
  ·obtain rfl:=Option.some.inj q1;cases q2;exact bP5 (m1 a2) (m1 b2)
  ·obtain rfl:=Option.some.inj q1;cases q2;exact bP5 (m1 a3) (m1 b3)
  ·obtain rfl:=Option.some.inj q1;cases q2;exact bP5 (m1 a4) (m1 b4)
  ·obtain rfl:=Option.some.inj q1;cases q2
   exact ⟨[.ref t1,.ref t2,.ref t3,.ref t4],_,rfl,.cons (hr 0 t1 _ rfl rfl) (.cons (hr 1 t2 _ rfl rfl) (.cons (hr 2 t3 _ rfl rfl) (.cons (hr 3 t4 _ rfl rfl) .nil)))⟩
  ·cases q1
end
section
variable {prog:Program} {w:World} {p:Program} {loose:List Str} {mean:ExcName→Option Value} {mg mb:Str→Option Value} {A:Around} {V:Vw} {m:Str→Option Value} {ρ:List Addr} {σ:St} {s:Shared} {env:Env} {G:Gx}
theorem tk_ok {st:Stmt} {K:Fl→St→Prop} {Q:Flow→Shared→Prop} {E:Value→Shared→Prop} (H:FOk G prog w A V env) (X:XOk G prog w A V env) (R:Rel V m ρ σ s.heap) (h:tkHk.exo G st σ K) (hQ:ResF V ρ s K Q):wpAny (model prog w) A (exec st env) Q E s:=by
 replace h:aB4 (ifS? st) fun q=>ev 20 G true q.1 σ fun c σ1=>aS8 c (exR G 40 q.2.1 σ1 K) (ex G 40 q.2.2.1 σ1 K):=h;(refine aA h ?_;intro no0 hst h;clear h;obtain ⟨t,b,o,p⟩:=no0)
 obtain rfl:=cG8 hst;have ih:=bW5 H X 40 [];rw [Vw.plus_nil] at ih;refine wpAny_If ((aY3 20 G V env H.v).2 _ _ _ _ _ _ _ _ R h fun c σ1 r1 h1 tk1 g1 R1 k1=>?_);have k2:=aF3 k1;clear k1;cases c with
 | true=>exact exR_ok H ih (s:=⟨h1,g1.1,s.drawn,tk1,s.os⟩) R1 k2 (hQ.step r1 h1 tk1 g1)
 | false=>exact ih _ _ _ _ _ ⟨h1,g1.1,s.drawn,tk1,s.os⟩ _ E R1 k2 (hQ.step r1 h1 tk1 g1)
theorem sg_ok {fd:FuncData} {e:Expr} {K:AV→St→Prop} {Q:Value→Shared→Prop} {E:Value→Shared→Prop} (hfd:bC9 (Mine.hd.heap_39 w.params) (.ref 163)=some (163,fd)) (x:XM w p loose mean mg mb V.h₀) (a:AOk 1 A) (H:FOk G prog w A V (aK9 fd 163 V.L)) (R:Rel V m ρ σ s.heap) (h:(sgHk w.params).exe G e σ K) (hQ:Res V m ρ s K Q):wpAny (model prog w) A (eval e (aK9 fd 163 V.L)) Q E s:=by
 refine hide fun G_ k_=>?_;obtain ⟨hrec,b,hb,hK⟩:=h;have ⟨hw,nw,e0,F,N,Pc⟩:=R.pcs;obtain ⟨v,hv,t,rfl⟩:=Pc.lo _ _ hb;refine k_ ?_;rw [H.nm] at hv;have en:(bC9 (Mine.hd.heap_39 w.params) (.ref 163)).map (fun q=>aK9 q.2 163 V.L)=some (envOf (ofString "_law_signs") cA9 V.L 163 (.ref 162)):=by kernel_rfl
 rw [hfd] at en;have en:aK9 fd 163 V.L=envOf (ofString "_law_signs") cA9 V.L 163 (.ref 162):=Option.some.inj en;have hs:=H.v.scope;rw [en] at hs ⊢;have hrec:sgE w.params=some (cA9,e):=hrec.trans (by refine rwb (hs ..) ?_;rfl);exact ((a.mono (zero_le _)).inA.mono (d':=600) (u':=2000) (by decide) (by decide)).wrun fun outer=>dA x.X x.T F N hrec hv fun h' tk' t' F' N'=>hQ _ _ _ [] h' tk' (.same _) (Pcs.rel Pc F' N' |> fun R=>(e0▸R:Rel V m ρ σ h').toks) (aF5 _) hK
end
section
open PySem.W.X
theorem gm_sub {M:Model} {A:Around} {E:Value→Shared→Prop} {s:Shared} {P:Params} {pl:Sem Bool} {Q:Value × List Value→Shared→Prop} (X:(Mine.hd.heap_39 P).In s.heap) (h:Q (.builtin "re.Pattern.sub",[.ref 90]) s) :
 wpAny M A (getMethod (.ref 90) (ofString "sub") pl) Q E s:=by
 have e:=X 90 _ (by with_unfolding_all rfl);clear X;obtain ⟨hh,g,d,t,os⟩:=s
 repeat (first | lk | (with_reducible refine x_at ?_))
 exact h
noncomputable def bU3 (x:PySem.Str):Prop:=∀ {prog:Program} {w:World} {outer:List Env} {E:Value→Shared→Prop} {s:Shared} {ts:Tok} {f:Addr} {fd:FuncData} {Q:Value→Shared→Prop}
 (_:(Mine.hd.heap_39 w.params).In s.heap) (_:s.heap.get? f=some ⟨.type "function",none,.func fd,#[]⟩)
 (_:∀ t' h' tk',(∀ b o,s.heap.get? b=some o→h'.get? b=some o)→Q (.str x t') {s with heap:=h',toks:=tk'}),
 wpAny (model prog w) (cA 350 500 outer) (call (.builtin "re.Pattern.sub") [.ref 90,.ref f,.str x ts]) Q E s
theorem aX7 {x:PySem.Str} (h:∀ {prog:Program} {w:World} {outer:List Env} {s:Shared} {ts:Tok} {f:Addr} {fd:FuncData} (_:(Mine.hd.heap_39 w.params).In s.heap) (_:s.heap.get? f=some ⟨.type "function",none,.func fd,#[]⟩),
  wpAny (model prog w) (cA 350 500 outer) (call (.builtin "re.Pattern.sub") [.ref 90,.ref f,.str x ts]) (fun v s'=>∃ h' t' nw,s'=⟨h',s.gens,s.drawn,t',s.os⟩∧Mem s.heap h' [] nw∧∃ t,v=.str x t∧x=x) (fun u_ u_=>False) s):bU3 x :=
 fun X hf hQ=>xrun (P:=fun v u_ u_=>∃ t,v=.str x t∧x=x) (h X hf) fun _ _ _ _ D ⟨_,e,_⟩=>e▸hQ _ _ _ fun b o e=>D.keep b o e (by rw [show away [] b=true from rfl,Bool.or_true])
theorem cP2:bU3 ⟨#[115,116]⟩:=aX7 fun {prog w outer s ts f fd} X hf=>by
 obtain ⟨h,g,d,t,os⟩:=s;dsimp only at X hf
 repeat (first | lk | (with_reducible refine x_at ?_))
 x_run
theorem bU9:bU3 ⟨#[33,92,45]⟩:=aX7 fun {prog w outer s ts f fd} X hf=>by
 obtain ⟨h,g,d,t,os⟩:=s;dsimp only at X hf
 repeat (first | lk | (with_reducible refine x_at ?_))
 x_run
theorem cN5:bU3 ⟨#[114,45,120]⟩:=aX7 fun {prog w outer s ts f fd} X hf=>by
 obtain ⟨h,g,d,t,os⟩:=s;dsimp only at X hf
 repeat (first | lk | (with_reducible refine x_at ?_))
 x_run
theorem cD:bU3 ⟨#[]⟩:=aX7 fun {prog w outer s ts f fd} X hf=>by
 obtain ⟨h,g,d,t,os⟩:=s;dsimp only at X hf
 repeat (first | lk | (with_reducible refine x_at ?_))
 x_run
theorem cO1:bU3 ⟨#[33]⟩:=aX7 fun {prog w outer s ts f fd} X hf=>by
 obtain ⟨h,g,d,t,os⟩:=s;dsimp only at X hf
 repeat (first | lk | (with_reducible refine x_at ?_))
 x_run
end
section
open PySem.Builtin PySem.Builtin.Str
theorem bE9 {prog:Program} {w:World} {A:Around} {E:Value→Shared→Prop} {s:Shared} {x y z:PySem.Str} {t u v:Tok} {Q:Value→Shared→Prop}
 (hno:(occurrences x y 0 x.length (x.length + 1)).isEmpty=true) (hq:Q (.str x t) s):wpAny (model prog w) A (call (.builtin "str.replace") [.str x t,.str y u,.str z v]) Q E s:=by
 refine call_gives F.slot_str_replace (typeIs_str _ _ _) F.entry_str_replace (F.args_str_replace_3 _ _ _)
  (gives_str_replace x y z t u v fun h=>by replace h:=(hno ..)▸h;cases h) ?_
 refine rwg (hno ..) ?_;simp only [Bool.true_or,if_true]
 exact hq
theorem cB6 {d:Addr} {o:Obj} {news:List (Addr × Obj)} {g:Obj→List (Addr × Obj)} (U:UpdF d o news g):g o=news:=by
 refine hide fun G_ k_=>?_;(refine aR (U.split) ?_;intro pre post h1 h2 _ _)
 refine k_ ?_;(refine rwg (h2 ..) ?_;refine rwg (h1 ..) ?_;rfl)
theorem cK8 {d:Addr} {o:Obj} {news:List (Addr × Obj)} {g:Obj→List (Addr × Obj)} (U:UpdF d o news g):(d,o)∈news:=by
 (refine aR (U.split) ?_;intro pre post h1 h2 _ _)
 refine rwg (h1 ..) ?_;exact mem_append_right _ (.head _)
theorem cA4 {h₀ h:Heap} {L:Addr} {x y:Addr × Obj} {r:List (Addr × Obj)} (N:News h₀ L h (x::y::r)):News h₀ L h (x::r):=fun q hq=>by
 rcases mem_cons.mp hq with rfl | hq
 ·exact N _ (.head _)
 ·exact N _ (.tail _ (.tail _ hq))
theorem cT9 {prog:Program} {w:World} {A:Around} {E:Value→Shared→Prop} {s:Shared} {h₀:Heap} {L c P a:Addr} {m mg mb:Str→Option Value} {news:List (Addr × Obj)} {g:Obj→List (Addr × Obj)} {p:Program} {loose:List Str} {mean:ExcName→Option Value}
 {cn:Str} {cs:Scope} {ccd:Value} {cl clos:List (Str × Addr)} {params:Arguments} {body:PySem.Expr} {scope:Scope} {pos:Pos} {ps:Array Value} {Q:Value→Shared→Prop}
 (F:Fr h₀ L s.heap m) (N:News h₀ L s.heap news) (T:Top p loose mean mg mb h₀) (C:CodeHd h₀ c P) (hcd:ccd=.ref c) (U:UpdF P (tabObj ps) news g) (ht:Trip ps.toList)
 (hdef:defaultsOf params (envX cn cs L a ccd cl)=([],[])) (hcl:closureFor scope (envX cn cs L a ccd cl)=pure clos)
 (h:∀ f fd h' tk ps',Fr h₀ L h' m→News h₀ L h' ((f,⟨.type "function",none,.func fd,#[]⟩)::g (tabObj ps'))→Trip ps'.toList→(∀ q∈news,q.1 < f)→Q (.ref f) {s with heap:=h',toks:=tk}) :
 wpAny (model prog w) A (eval (.Lambda params body scope pos) (envX cn cs L a ccd cl)) Q E s:=by
 refine kla_eval hdef ?_;rcases ht.ref pos with hn | ⟨c',hc'⟩
 ·refine kla_nest F N T C hcd U ht.ok hn hcl fun f c' oc vs t ctv h' tk F' N' hd hv hlt hlt2=>?_;exact h f _ h' tk (ps++#[rawInt pos.line,rawInt pos.col,.ref c']) F' (cA4 N') (by refine rwg (Array.toList_append ..) ?_;exact ht.snoc _ _ _ _ _) (fun q hq=>lt_trans (hlt q hq) hlt2)
 ·refine kla_hit F N T C hcd (cK8 U) ht.ok hc' hcl fun f ctv h' tk F' N' hlt=>?_;exact h f _ h' tk ps F' (by refine rwg (cB6 U ..) ?_;exact N') ht hlt
end
theorem bM1 (n:Nat):passing (fun u_=>true) n 0=List.range n:=by
 unfold passing;refine rwg (List.drop_zero ..) ?_;exact List.filter_eq_self.mpr fun u_ u_=>rfl
section
variable {prog:Program} {w:World} {A:Around} {E:Value→Shared→Prop} {s:Shared} {h₀:Heap} {L c P l:Addr} {m mg mb:Str→Option Value} {news:List (Addr × Obj)} {g:Obj→List (Addr × Obj)} {p:Program} {loose:List Str} {mean:ExcName→Option Value}
theorem cM1 {env:Env} {elt iter:PySem.Expr} {x:Str} {px:Pos} {scope:Scope} {cl:List (Str × Addr)} {pos:Pos} {ps:Array Value} {items:Array Value} {F:Nat→Value→Prop} {Q:Value→Shared→Prop}
  (Fr₀:Fr h₀ L s.heap m) (N:News h₀ L s.heap news) (T:Top p loose mean mg mb h₀) (C:CodeHd h₀ c P) (U:UpdF P (tabObj ps) news g) (ht:Trip ps.toList) (hl:s.heap.IsList l items)
  (hcode:env.code=.ref c) (hge:env.globals=mainGlobals)
  (hh:A.handled=none) (hco:scope.isCoroutine=false) (hclos:closureFor scope env=pure cl) (hcell:∀ y∈scope.names,y.2≠.cell) (h0:scope.names.lookup (".0":Str)=some NameKind.local)
  (hx:scope.names.lookup x=some .local) (hkind:scope.kind=.function) (hroom:A.depth < recursionLimit)
  (hs:∀ x,genFold iter env x=pure x)
  (hev:wpAny (model prog w) A (eval iter env) (fun xv s₁=>xv=.ref l∧s₁=s) E s)
  (hq:∀ (code:Value) (C' I:Addr) (href:Heap),QuietGen prog w (genEnv scope cl C' code builtinsNs env) x [] elt (List.range C') [I] (fun i v=>items[i]?=some v) (fun u_=>true) F href)
  (h:∀ a s₅ ps' K,Fr h₀ L s₅.heap m→News h₀ L s₅.heap (g (tabObj ps'))→Trip ps'.toList→s₅.drawn=s.drawn→s₅.os=s.os→(AllBare s.gens→AllBare s₅.gens)→L≤K→(∀ q∈g (tabObj ps'),q.1≤K)→Gen prog w A K a items.size F s₅→Q (.ref a) s₅) :
  wpAny (model prog w) A (eval (.GeneratorExp elt [⟨.Name x px,iter,[],0⟩] scope pos) env) Q E s:=by
 refine hide fun G_ k_=>?_;(refine aR (U.split) ?_;intro pre post e1 e2 e3 e4)
 refine k_ ?_;have hm:(P,tabObj ps)∈news:=by refine rwg (e1 ..) ?_;exact mem_append_right _ (.head _)
 have hP:=N _ hm;have hLs:L < s.heap.objs.size:=Fr₀.ns.lt;have hKs:∀ ps',∀ q∈g (tabObj ps'),q.1≤s.heap.objs.size - 1:=fun ps' q hq=>by
  replace hq:=(e2 ..)▸hq;refine Nat.le_sub_one_of_lt ?_;rcases mem_append.mp hq with hq | hq
  ·exact Heap.lt_size (N q (by refine rwg (e1 ..) ?_;exact mem_append_left _ hq)).1
  ·rcases mem_cons.mp hq with rfl | hq
   ·exact Heap.lt_size hP.1
   ·exact Heap.lt_size (N q (by refine rwg (e1 ..) ?_;exact mem_append_right _ (.tail _ hq))).1
 have hlt:l < s.heap.objs.size:=by (refine aA3 hl ?_;clear hl;intro _ e _);exact Heap.lt_size e
 have hPlt:P < s.heap.objs.size:=Heap.lt_size hP.1;have hlP:l≠P:=fun e=>by
  refine hide fun G_ k_=>?_;(refine aI8 hl ?_;clear hl;intro o ho hc _)
  refine k_ ?_;(replace ho:=(e ..)▸ho;replace ho:=(hP.1 ..)▸ho);cases ho;exact absurd hc (by simp)
 have nolim:s.heap.NoLimit:=T.nolimit.keeps Fr₀.keep;have hcs:cStatics < s.heap.objs.size:=let ⟨_,hn,_⟩:=nolim;hn.lt
 refine wpAny_GeneratorExp_walksQ hh hco hclos hcell h0 hx hkind hroom (wpAny_mono hev (fun xv s₁ h₁=>?_) fun u_ u_ e=>e) hs;(refine aE8 h₁ ?_;clear h₁;intro eo0 eo1;subst eo0;clear hev k_;subst eo1)
 refine wpAny_pyIter_list hl ⟨nolim.push _,?_⟩;have C₂:CodeHd (s₁.heap.push {cls:=.type "list_iterator",data:=.fields #[.ref l,.int 0 0]}) c P:=C.keeps fun b o e=>Heap.get?_push_of_some _ (Fr₀.keep b o e);have hP₂:(s₁.heap.push {cls:=.type "list_iterator",data:=.fields #[.ref l,.int 0 0]}).get? P=some (tabObj ps):=Heap.get?_push_of_some _ hP.1;have key:∀ c' h₃ tk ps',Heap.ExtBut P (s₁.heap.push {cls:=.type "list_iterator",data:=.fields #[.ref l,.int 0 0]}) h₃→(s₁.heap.push {cls:=.type "list_iterator",data:=.fields #[.ref l,.int 0 0]}).objs.size≤h₃.objs.size→h₃.get? P=some (tabObj ps')→Trip ps'.toList →
   wpAny (model prog w) A (builtinsFor env.globals env.builtins) (fun bi s₄ =>
    ∃ I fp wr n₀ P St₀ pz F,Value.ref s₁.heap.objs.size=.ref I∧(∀ A':Around,A'.handled=none→Walks prog w A' I fp wr n₀ P St₀)∧St₀ 0 s₄.heap∧(∀ b∈fp,b < s₄.heap.objs.size)∧s₄.heap.NoLimit∧cStatics∉wr ∧
     (∀ href:Heap,(∀ b o,s₄.heap.get? b=some o→href.get? b=some o) →
      QuietGen prog w (genEnv scope cl s₄.heap.objs.size (.ref c') bi env) x [] elt (List.range s₄.heap.objs.size) wr P pz F href) ∧
     (∀ a h₅ tk gs,gs.bare=true→s₄.heap.objs.size < a→h₅.objs.size=a + 1→(∀ b o,s₄.heap.get? b=some o→h₅.get? b=some o) →
      WalksS prog w A.in4 a (a::s₄.heap.objs.size::List.range s₄.heap.objs.size) (s₄.heap.objs.size::wr) (GenOnlyQ s₄.gens.size) (passing pz n₀ 0).length
       (fun j y=>∃ i,(passing pz n₀ 0)[j]?=some i∧F i y) (GenAt prog w A.in4 a s₄.gens.size s₄.heap.objs.size (List.range s₄.heap.objs.size) wr pz n₀ F) →
      GenAt prog w A.in4 a s₄.gens.size s₄.heap.objs.size (List.range s₄.heap.objs.size) wr pz n₀ F 0 {s₄ with gens:=s₄.gens.push gs,toks:=tk,heap:=h₅} →
      Q (.ref a) {s₄ with gens:=s₄.gens.push gs,toks:=tk,heap:=h₅})) E {s₁ with heap:=h₃,toks:=tk}:=by
  intro c' h₃ tk ps' hx₃ hsz₃ hP₃ ht';have hx₃':Heap.ExtBut P s₁.heap h₃:=fun b o hb e=>hx₃ b o hb (Heap.get?_push_of_some _ e);have hI₃:=hx₃ s₁.heap.objs.size _ (ne_of_gt hPlt) (Heap.get?_push_size _ rfl);replace hsz₃:=(Heap.size_push ..)▸hsz₃;refine hide fun G_ k_=>?_;(refine bW2 (T.bmain) ?_;intro bm ob b1 b2 b3 b4 b5 b6)
  refine k_ ?_;have hbP:bm≠P:=fun q=>by
   have e:=Fr₀.keep _ _ b3;(replace e:=(q ..)▸e;replace e:=(hP.1 ..)▸e);clear b3 b5 b6;cases e;cases b4
  have hgP:mainGlobals≠P:=fun q=>by
   (refine bC8 (T.g.keeps Fr₀.keep) ?_;intro o es ep e hd _)
   (replace e:=(q ..)▸e;replace e:=(hP.1 ..)▸e);cases e;cases hd
  have hcP:cStatics≠P:=fun q=>by
   (refine aA3 nolim ?_;clear nolim;intro _ no0 _;obtain ⟨o,es,ep,e,hd,_⟩:=no0)
   (replace e:=(q ..)▸e;replace e:=(hP.1 ..)▸e);cases e;cases hd
  refine rwg (hge ..) ?_;refine wpAny_builtinsFor ((T.g.keeps Fr₀.keep).extBut hx₃' hgP) b1 b2 (hx₃' _ _ hbP (Fr₀.keep _ _ b3)) b4 b5 b6 ?_;have F₃:Fr h₀ L h₃ m:=⟨Fr₀.ns.at' fun o e=>hx₃' _ o (fun q=>hP.2.1 q.symm) e,fun b o e=>hx₃' b o (fun q=>by (replace e:=(q ..)▸e;replace e:=(hP.2.2 ..)▸e);cases e) (Fr₀.keep b o e),Fr₀.above⟩;have N₃:News h₀ L h₃ (g (tabObj ps')):=by
   refine rwg (e2 ..) ?_;intro q hq;have other:q∈news→q.1≠P→h₃.get? q.1=some q.2∧q.1≠L∧h₀.get? q.1=none:=fun hq hne=>⟨hx₃' _ _ hne (N q hq).1,(N q hq).2⟩;rcases mem_append.mp hq with hq | hq
   ·exact other (by refine rwg (e1 ..) ?_;exact mem_append_left _ hq) (e3 _ hq)
   ·rcases mem_cons.mp hq with rfl | hq
    ·exact ⟨hP₃,hP.2⟩
    ·exact other (by refine rwg (e1 ..) ?_;exact mem_append_right _ (.tail _ hq)) (e4 _ hq)
  refine ⟨s₁.heap.objs.size,[s₁.heap.objs.size,l],[s₁.heap.objs.size],items.size,_,_,fun u_=>true,F,rfl,(fun A' hA=>Walks.list hA _ _ (ne_of_lt hlt) items),⟨(aM1 (_) (hI₃) (rfl) (rfl)),hl.extBut hx₃' hlP⟩,?_,nolim.extBut hx₃' hcP,?_,fun href u_=>hq _ _ _ href,?_⟩
  ·intro b hb;refine (?_:b < h₃.objs.size);rcases mem_cons.mp hb with rfl | hb
   ·exact hsz₃
   ·clear hlP hl C₂ hP₂ hx₃ hI₃;rcases mem_cons.mp hb with rfl | hb
    ·exact lt_trans hlt hsz₃
    ·cases hb
  ·intro hb;rcases mem_cons.mp hb with e | hb
   ·exact absurd (e▸hcs) (Nat.lt_irrefl _)
   ·cases hb
  ·intro a h₅ tk gs hgb hag hsz₅ hk₅ W hat;refine h a _ ps' (s₁.heap.objs.size - 1) (F₃.keeps hk₅) (fun q hq=>⟨hk₅ _ _ (N₃ q hq).1,(N₃ q hq).2⟩) ht' rfl rfl (fun G=>G.push hgb) (Nat.le_sub_one_of_lt hLs) (hKs ps') ⟨a::h₃.objs.size::List.range h₃.objs.size,[h₃.objs.size,s₁.heap.objs.size],s₁.gens.size,GenAt prog w A.in4 a s₁.gens.size h₃.objs.size (List.range h₃.objs.size) [s₁.heap.objs.size] (fun u_=>true) items.size F,?_,hat,(fun i s' st=>st.1.typeIs),List.mem_cons_self,?_,?_⟩
   ·(replace W:=(bM1 ..)▸W;replace W:=(length_range ..)▸W)
    refine ⟨W.sub,W.grefl,W.gtrans,W.frame,fun i s Q E hi st hQ=>W.item i s Q E hi st fun v s' hv=>?_,W.done,W.self⟩;refine hide fun G_ k_=>?_;(refine aA3 hv ?_;clear hv;intro i' hi' hF)
    replace hi':=(List.getElem?_range hi ..)▸hi';cases hi'
    refine k_ ?_;exact hQ v s' hF
   ·intro b hb;refine (?_:b < h₅.objs.size);refine rwg (hsz₅ ..) ?_;clear hsz₅ W hat;rcases mem_cons.mp hb with rfl | hb
    ·exact lt_succ_self _
    ·rcases mem_cons.mp hb with rfl | hb
     ·exact lt_succ_of_lt hag
     ·exact lt_succ_of_lt (lt_trans (List.mem_range.mp hb) hag)
   ·intro b hb;have hag:h₃.objs.size < a:=hag;rcases mem_cons.mp hb with rfl | hb
    ·exact Nat.lt_of_le_of_lt (Nat.sub_le _ _) hsz₃
    ·rcases mem_cons.mp hb with rfl | hb
     ·exact Nat.sub_lt (Nat.lt_of_le_of_lt (zero_le _) hLs) Nat.one_pos
     ·cases hb
 rcases ht.ref pos with hn | ⟨c',hc'⟩
 ·exact wpAny_genexprCodeX hcode (C₂.code hP₂ ht.ok) (C₂.tab hP₂) hn fun c' h₃ tk₃ hx₃ hge₃ hlt₃ hcode₃ u_ htab₃ u_ =>
   key c' h₃ tk₃ _ hx₃ (le_trans hge₃ (le_of_lt hlt₃)) htab₃.2 (by refine rwg (Array.toList_append ..) ?_;exact ht.snoc _ _ _ _ _)
 ·exact wpAny_genexprCode_hit hcode (C₂.code hP₂ ht.ok) hc' (key c' _ s₁.toks ps (fun b o u_ e=>e) (le_refl _) hP₂ ht)
theorem cA3 {sep:Str} {t:Tok} {a K:Addr} {n:Nat} {F:Nat→Value→Prop} {Q:Value→Shared→Prop} (Fh:Fr h₀ L s.heap m) (N:News h₀ L s.heap news) (X:Gen prog w A K a n F s) (hLK:L≤K) (hK:∀ q∈news,q.1≤K)
  (tx:Nat→Str) (htx:∀ j v,F j v→∃ u,v=.str (tx j) u) (hok:JoinOk sep ((List.range n).map tx)=true)
  (hQ:∀ s' t',Fr h₀ L s'.heap m→News h₀ L s'.heap news→s'.drawn=s.drawn→s'.os=s.os→(AllBare s.gens→AllBare s'.gens)→Q (.str (Txt.join sep ((List.range n).map tx)) t') s')
  (hsz:n≤sizeLine):wpAny (model prog w) A (call (.builtin "str.join") [.str sep t,.ref a]) Q E s:=by
 refine hide fun G_ k_=>?_;(refine bJ5 X ?_;clear X;intro fp wr g St W hst hT ha hfp hwr)
 refine k_ ?_;have W:=W.in4_2;refine SC.joinGen W hT hst hfp ha (fun j v hv=>let ⟨u,e⟩:=htx j v hv;(aT2 (_) (u) (e))) (fun s' lt hm hacc=>?_) hsz;have hl:lt.map (·.1)=(List.range n).map tx:=by
  apply List.ext_getElem?;intro j;have hsz:lt.length=n:=by simpa [strValues] using hacc.1
  by_cases hj:j < n
  ·have hj':j < lt.length:=hsz▸hj;refine hide fun G_ k_=>?_;(refine aJ9 (htx j _ (hacc.2 j (.str lt[j].1 lt[j].2) (by simp [strValues,getElem?_eq_getElem hj']))) ?_;intro u hv)
   refine k_ ?_
   injection hv with h1 _
   simp [getElem?_eq_getElem hj',hj,h1]
  ·(refine rwg (List.getElem?_eq_none (by rw [length_map,hsz];exact Nat.le_of_not_lt hj) ..) ?_;refine rwg (List.getElem?_eq_none (by rw [length_map,length_range];exact Nat.le_of_not_lt hj) ..) ?_;rfl)
 refine rwg (hl ..) ?_;refine ⟨hok,fun t' k=>?_⟩;have hk:∀ b o,b≤K→s.heap.get? b=some o→s'.heap.get? b=some o:=fun b o hb e=>hm.heap b o (fun hmem=>Nat.lt_irrefl _ (lt_of_lt_of_le (hwr b hmem) hb)) e;exact hQ {s' with toks:=k} t' (Fh.moved (s':=s') hm fun b hb=>Nat.lt_of_le_of_lt hLK (hwr b hb)) (fun q hq=>⟨hk _ _ (hK q hq) (N q hq).1,(N q hq).2⟩) hm.drawn hm.os (fun G=>show AllBare s'.gens from G.movedS hm)
end
noncomputable def bL1 (v:PySem.Str):PySem.Str:=if (Builtin.Str.occurrences v (ofString "-") 0 v.length (v.length + 1)).isEmpty=true then v else Builtin.Str.glued (ofString "\\-") (Builtin.Str.partsBetween v (Builtin.Str.occurrences v (ofString "-") 0 v.length (v.length + 1)) (ofString "-").length)
set_option tactic.hygienic true in
theorem bL4 {prog:Program} {w:World} {A:Around} {E:Value→Shared→Prop} {s:Shared} {x:PySem.Str} {t u v:Tok} {Q:Value→Shared→Prop} (hu:u≠0) (hv:v≠0) (huv:u≠v) (hlen:x.length≤100) (hsz:(bL1 x).length≤1000)
 (hq:∀ t' s',Keeps s s'→Q (.str (bL1 x) t') s'):wpAny (model prog w) A (call (.builtin "str.replace") [.str x t,.str (ofString "-") u,.str (ofString "\\-") v]) Q E s:=by
 refine call_gives F.slot_str_replace (typeIs_str _ _ _) F.entry_str_replace (F.args_str_replace_3 _ _ _)
  (gives_str_replace x (ofString "-") (ofString "\\-") t u v fun h=>⟨by simp [hu,hv],by simp [huv],by decide +kernel,?_⟩) ?_
 ·have h1:=StrLaws.occ_length_le x (ofString "-") 0 x.length (x.length + 1);have h2:(ofString "\\-").length=2:=by decide +kernel
  unfold Builtin.Str.tooLong sizeLine;refine rwg (h2 ..) ?_;exact decide_eq_false (by (clear hu hv huv hsz h h2;lia))
 ·have h3:((ofString "-").length==0 && (ofString "\\-").length==0)=false:=by decide +kernel
  (refine rwg (h3 ..) ?_;refine rwg (Bool.or_false ..) ?_)
  unfold bL1 at hq hsz;split
  ·rename_i hc;rw [if_pos hc] at hq;exact hq _ _ ⟨_,_,rfl,fun u_ u_ e=>e⟩
  ·rename_i hc;rw [if_neg hc] at hq hsz;exact ⟨by refine rwg (sizeLine_eq ..) ?_;(clear hu hv huv hlen h3 hc;lia),hq s.toks {s with toks:=s.toks + 1} ⟨_,_,rfl,fun u_ u_ e=>e⟩⟩
theorem elt_ok {prog:Program} {w:World} {A:Around} {E:Value→Shared→Prop} {s:Shared} {m:Str→Option Value} {v:PySem.Str} {t:Tok} {C':Addr} {cl:List (Str × Addr)} {code:Value} {bi:Addr} {env:Env}
 (hh:A.handled=none) (hlen:v.length≤100) (hsz:(bL1 v).length≤1000) (hno:(Builtin.Str.occurrences v (ofString "\\") 0 v.length (v.length + 1)).isEmpty=true)
 (hn:s.heap.Ns C' m) (hx:m (ofString "s")=some (.str v t)) :
 wpAny (model prog w) A (eval (.Call (.Attribute (.Call (.Attribute (.Name (ofString "s") ⟨100,38,100,39⟩) (ofString "replace") ⟨100,38,100,47⟩) [.Constant (.str (ofString "\\")) 0 ⟨100,48,100,52⟩,.Constant (.str (ofString "\\\\")) 0 ⟨100,54,100,60⟩] [] ⟨100,38,100,61⟩) (ofString "replace") ⟨100,38,100,69⟩) [.Constant (.str (ofString "-")) 0 ⟨100,70,100,73⟩,.Constant (.str (ofString "\\-")) 0 ⟨100,75,100,80⟩] [] ⟨100,38,100,81⟩)
   (genEnv {kind:=.function,names:=[(ofString ".0",.local),(ofString "s",.local)],isGenerator:=true,isCoroutine:=false,more:=[]} cl C' code bi env))
  (fun y s₃=>(∃ u,y=Value.str (bL1 v) u)∧Keeps s s₃) E s:=by
 have F:Fr {objs:=#[]} C' s.heap (fun y=>if y=ofString "s" then some (.str v t) else m y):=cT6 ⟨hn,fun b o e=>by simp [Heap.get?] at e,zero_le _⟩ hx
 repeat (fail_if_success (with_reducible show wpAny _ _ (call (Value.builtin "str.replace") _) _ _ _));(first | (k_unfold;(try dsimp only)) | walk1 | (dsimp only;walk1) | (leave1;walk_say "STEP leave1";try dsimp only))
 refine bE9 hno ?_
 repeat (fail_if_success (with_reducible show wpAny _ _ (call (Value.builtin "str.replace") _) _ _ _));(first | (k_unfold;(try dsimp only)) | walk1 | (dsimp only;walk1) | (leave1;walk_say "STEP leave1";try dsimp only))
 refine bL4 (Nat.succ_ne_zero _) (Nat.succ_ne_zero _) (ne_of_lt (lt_succ_self _)) hlen hsz ?_;rintro t' _ ⟨h',tk,rfl,hk⟩;exact ⟨⟨_,rfl⟩,_,_,rfl,hk⟩
theorem cJ {prog:Program} {w:World} {cl:List (Str × Addr)} {code:Value} {C' I:Addr} {env:Env} {href:Heap} (its:List PySem.Str) (items:Array Value)
  (hi:∀ (i:Nat) v,items[i]?=some v→∃ y t,its[i]?=some y∧v=Value.str y t) (hlen:∀ y∈its,y.length≤100) (hsz:∀ y∈its,(bL1 y).length≤1000) (hno:∀ y∈its,(Builtin.Str.occurrences y (ofString "\\") 0 y.length (y.length + 1)).isEmpty=true) :
  QuietGen prog w (genEnv {kind:=.function,names:=[(ofString ".0",.local),(ofString "s",.local)],isGenerator:=true,isCoroutine:=false,more:=[]} cl C' code builtinsNs env) (ofString "s") []
   (.Call (.Attribute (.Call (.Attribute (.Name (ofString "s") ⟨100,38,100,39⟩) (ofString "replace") ⟨100,38,100,47⟩) [.Constant (.str (ofString "\\")) 0 ⟨100,48,100,52⟩,.Constant (.str (ofString "\\\\")) 0 ⟨100,54,100,60⟩] [] ⟨100,38,100,61⟩) (ofString "replace") ⟨100,38,100,69⟩) [.Constant (.str (ofString "-")) 0 ⟨100,70,100,73⟩,.Constant (.str (ofString "\\-")) 0 ⟨100,75,100,80⟩] [] ⟨100,38,100,81⟩)
   (List.range C') [I] (fun i v=>items[i]?=some v) (fun u_=>true) (fun i y=>∃ v u,its[i]?=some v∧y=Value.str (bL1 v) u) href where
 tests:=fun A' E' i v s₂ m₂ u_ u_ u_ u_ u_=>wpAny_pure ⟨rfl,_,_,rfl,fun u_ u_ e=>e⟩
 elt:=fun A' E' i v s₂ m₂ hh hP u_ hn hx u_=>by
  refine hide fun G_ k_=>?_;(refine aG9 (hi i v hP) ?_;intro y t hy eo0;clear hP;subst eo0)
  refine k_ ?_;have hm:y∈its:=mem_of_getElem? hy;refine wpAny_mono (elt_ok hh (hlen y hm) (hsz y hm) (hno y hm) hn hx) (fun z s₃ hz=>?_) fun u_ u_ e=>e;refine hide fun G_ k_=>?_;(refine aE8 hz ?_;clear hz;intro no0 hk;obtain ⟨u,rfl⟩:=no0)
  refine k_ ?_;exact ⟨⟨y,u,hy,rfl⟩,hk⟩
noncomputable abbrev bR1 (L:Addr):Env:=envOf (ofString "_translate") {kind:=.function,names:=[(ofString "pat",NameKind.local),(ofString "STAR",NameKind.local),(ofString "QUESTION_MARK",NameKind.local),(ofString "res",NameKind.local),(ofString "add",NameKind.local),(ofString "i",NameKind.local),(ofString "n",NameKind.local),(ofString "c",NameKind.local),(ofString "j",NameKind.local),(ofString "stuff",NameKind.local),(ofString "chunks",NameKind.local),(ofString "k",NameKind.local),(ofString "chunk",NameKind.local),(ofString "len",NameKind.globalImplicit),(ofString "range",NameKind.globalImplicit),(ofString "_twin_re_1",NameKind.globalImplicit),(ofString "escape",NameKind.globalImplicit)],isGenerator:=false,isCoroutine:=false} L 109 (.ref 108)
theorem cX7 {x:PySem.Str} (h:subL.any (·==x)=true):x=⟨#[115,116]⟩∨x=⟨#[33,92,45]⟩∨x=⟨#[114,45,120]⟩∨x=⟨#[]⟩∨x=⟨#[33]⟩:=by
 have e:subL=[⟨#[115,116]⟩,⟨#[33,92,45]⟩,⟨#[114,45,120]⟩,⟨#[]⟩,⟨#[33]⟩]:=by decide +kernel
 rw [e] at h;simp only [any_cons,any_nil,Bool.or_false,Bool.or_eq_true,beq_iff_eq] at h
 rcases h with rfl | rfl | rfl | rfl | rfl<;>simp
section
variable {prog:Program} {w:World} {p:Program} {loose:List Str} {mean:ExcName→Option Value} {mg mb:Str→Option Value} {outer:List Env} {s:Shared} {h₀:Heap} {L:Addr} {m:Str→Option Value} {rest:List (Addr × Obj)} {ps:Array Value}
theorem x_sub {x:PySem.Str} {ts:Tok} {f:Addr} {fd:FuncData} {Q:Value→Shared→Prop} {E:Value→Shared→Prop} (X:(Mine.hd.heap_39 w.params).In s.heap) (hf:s.heap.get? f=some ⟨.type "function",none,.func fd,#[]⟩) (h:subL.any (·==x)=true)
 (hQ:∀ t' h' tk',(∀ b o,s.heap.get? b=some o→h'.get? b=some o)→Q (.str x t') {s with heap:=h',toks:=tk'}):wpAny (model prog w) (cA 350 500 outer) (call (.builtin "re.Pattern.sub") [.ref 90,.ref f,.str x ts]) Q E s:=by
 rcases cX7 h with rfl | rfl | rfl | rfl | rfl
 ·exact cP2 X hf hQ
 ·exact bU9 X hf hQ
 ·exact cN5 X hf hQ
 ·exact cD X hf hQ
 ·exact cO1 X hf hQ
theorem cP {x:PySem.Str} {tx:Tok} {sc:Scope} {e:PySem.Expr} {Q:Value→Shared→Prop} {E:Value→Shared→Prop} (X:(Mine.hd.heap_39 w.params).In h₀) (T:Top p loose mean mg mb h₀) (C:CodeHd h₀ 108 104) (F:Fr h₀ L s.heap m) (N:News h₀ L s.heap ((104,tabObj ps)::rest)) (off:∀ q∈rest,q.1≠104) (ht:Trip ps.toList)
  (hx:m (ofString "stuff")=some (.str x tx)) (hs:subL.any (·==x)=true) (hrec:bM3 w.params=some (sc,e))
  (hQ:∀ h' tk' t' ps',Fr h₀ L h' m→News h₀ L h' ((104,tabObj ps')::rest)→Trip ps'.toList→Q (.str x t') ⟨h',s.gens,s.drawn,tk',s.os⟩):wpAny (model prog w) (cA 350 500 outer) (eval e (bR1 L)) Q E s:=by
 conv at hrec=>lhs;whnf
 cases hrec
 have F1:=cT6 F hx
 repeat ((fail_if_success (with_reducible show wpAny _ _ (getMethod (Value.ref 90) _ _) _ _ _));(fail_if_success (with_reducible show wpAny _ _ (eval (PySem.Expr.Lambda _ _ _ _) _) _ _ _));(fail_if_success (with_reducible show wpAny _ _ (eval (PySem.Expr.GeneratorExp _ _ _ _) _) _ _ _));(fail_if_success (with_reducible show wpAny _ _ (call (Value.builtin "re.Pattern.sub") _) _ _ _));(fail_if_success (with_reducible show wpAny _ _ (call (Value.builtin "str.join") _) _ _ _));law_purse 400000=>(first | (k_unfold;(try dsimp only)) | walk1 | (dsimp only;walk1) | (leave1;walk_say "STEP leave1";try dsimp only)))
 refine gm_sub (X.keeps F.keep) ?_
 repeat ((fail_if_success (with_reducible show wpAny _ _ (getMethod (Value.ref 90) _ _) _ _ _));(fail_if_success (with_reducible show wpAny _ _ (eval (PySem.Expr.Lambda _ _ _ _) _) _ _ _));(fail_if_success (with_reducible show wpAny _ _ (eval (PySem.Expr.GeneratorExp _ _ _ _) _) _ _ _));(fail_if_success (with_reducible show wpAny _ _ (call (Value.builtin "re.Pattern.sub") _) _ _ _));(fail_if_success (with_reducible show wpAny _ _ (call (Value.builtin "str.join") _) _ _ _));law_purse 400000=>(first | (k_unfold;(try dsimp only)) | walk1 | (dsimp only;walk1) | (leave1;walk_say "STEP leave1";try dsimp only)))
 k_dflt (refine cT9 (g:=fun o=>(104,o)::rest) F1 N T C rfl (.head off) ht rfl rfl ?_)
 intro f fd h1 tk1 ps1 F2 N2 ht2 _;clear F1
 repeat ((fail_if_success (with_reducible show wpAny _ _ (getMethod (Value.ref 90) _ _) _ _ _));(fail_if_success (with_reducible show wpAny _ _ (eval (PySem.Expr.Lambda _ _ _ _) _) _ _ _));(fail_if_success (with_reducible show wpAny _ _ (eval (PySem.Expr.GeneratorExp _ _ _ _) _) _ _ _));(fail_if_success (with_reducible show wpAny _ _ (call (Value.builtin "re.Pattern.sub") _) _ _ _));(fail_if_success (with_reducible show wpAny _ _ (call (Value.builtin "str.join") _) _ _ _));law_purse 400000=>(first | (k_unfold;(try dsimp only)) | walk1 | (dsimp only;walk1) | (leave1;walk_say "STEP leave1";try dsimp only)))
 refine x_sub (X.keeps F2.keep) (N2 _ (.head _)).1 hs ?_;intro t' h' tk' k;exact hQ h' tk' t' ps1 ((cD1 F2 hx).keeps k) (fun q hq=>⟨k _ _ (N2 q (.tail _ hq)).1,(N2 q (.tail _ hq)).2⟩) ht2
theorem aT5 {sep:PySem.Str} (hs:sep.length≤1):∀ (texts:List PySem.Str) (k:Nat),(∀ x∈texts,x.length≤3)→texts.foldl (· + ·.length + sep.length) k≤k + 4 * texts.length
 | [],k,_=>by refine (?_:k≤k + 0);(clear hs;lia)
 | x::r,k,h=>by
  have h1:=h x (.head _);have h2:=aT5 hs r (k + x.length + sep.length) fun y hy=>h y (.tail _ hy);(refine rwg (List.foldl_cons ..) ?_;refine rwg (length_cons ..) ?_)
  lia
theorem bT9 {y z:PySem.Str} (h:cU8 y=some z):z=bL1 y∧y.length≤100∧(bL1 y).length≤3∧(Builtin.Str.occurrences y (ofString "\\") 0 y.length (y.length + 1)).isEmpty=true:=by
 have hm:=aE0 h;have key:∀ p∈[(ofString "!-",ofString "!\\-"),(ofString "r",ofString "r"),(ofString "x",ofString "x"),(ofString "",ofString ""),(ofString "!",ofString "!")],p.2=bL1 p.1∧p.1.length≤100∧(bL1 p.1).length≤3∧(Builtin.Str.occurrences p.1 (ofString "\\") 0 p.1.length (p.1.length + 1)).isEmpty=true:=by decide +kernel
 exact key _ hm
theorem bM9 {α β:Type} {f:α→Option β}:∀ {l:List α} {r:List β},l.mapM f=some r→l.length=r.length∧∀ (i:Nat) a,l[i]?=some a→∃ b,r[i]?=some b∧f a=some b
 | [],r,h=>by obtain rfl:=Option.some.inj h;exact ⟨rfl,fun i a e=>by simp at e⟩
 | a::l,r,h=>by
  rw [mapM_cons] at h;refine hide fun G_ k_=>?_;(refine aA1 h ?_;intro b hb h)
  (refine aA1 h ?_;intro bs hbs h)
  obtain rfl:=Option.some.inj h;(refine aE8 (bM9 hbs) ?_;intro h1 h2)
  refine k_ ?_;refine ⟨congrArg (· + 1) h1,fun i x e=>?_⟩;cases i with
  | zero=>obtain rfl:=Option.some.inj e;exact (aA0 (b) (rfl) (hb))
  | succ i=>exact h2 i x e
theorem cH3 {ys zs:List PySem.Str} {lc:Addr} {vs:List Value} {sc:Scope} {e:PySem.Expr} {Q:Value→Shared→Prop} {E:Value→Shared→Prop} (X:(Mine.hd.heap_39 w.params).In h₀) (T:Top p loose mean mg mb h₀) (C:CodeHd h₀ 108 104) (F:Fr h₀ L s.heap m) (N:News h₀ L s.heap ((104,tabObj ps)::rest)) (off:∀ q∈rest,q.1≠104) (ht:Trip ps.toList)
  (hc:m (ofString "chunks")=some (.ref lc)) (hlc:s.heap.IsList lc (toArray vs)) (hys:StrsAre vs ys) (hz:ys.mapM cU8=some zs) (hn:Nat.ble ys.length 2=true) (hrec:bC w.params=some (sc,e))
  (hQ:∀ (s':Shared) t' ps',Fr h₀ L s'.heap m→News h₀ L s'.heap ((104,tabObj ps')::rest)→Trip ps'.toList→s'.drawn=s.drawn→s'.os=s.os→(AllBare s.gens→AllBare s'.gens)→Q (.str (Txt.join (ofString "-") zs) t') s'):wpAny (model prog w) (cA 350 500 outer) (eval e (bR1 L)) Q E s:=by
 conv at hrec=>lhs;whnf
 cases hrec
 (refine aE8 (bM9 hz) ?_;intro hl hat)
 have F1:=cT6 F hc;have hn2:ys.length≤2:=le_of_ble_eq_true hn;have hll:vs.length=ys.length:=hys.length;have hat:∀ y∈ys,y.length≤100∧(bL1 y).length≤3∧(Builtin.Str.occurrences y (ofString "\\") 0 y.length (y.length + 1)).isEmpty=true:=fun y hy=>by
  (refine aJ9 (getElem?_of_mem hy) ?_;intro i hi)
  (refine aA3 (hat i y hi) ?_;intro b _ hb)
  exact (bT9 hb).2
 have htx:(List.range ys.length).map (fun j=>bL1 (ys.getD j (ofString "")))=zs:=by
  refine List.ext_getElem? fun j=>?_;by_cases hj:j < ys.length
  ·(refine aA3 ((bM9 hz).2 j _ (getElem?_eq_getElem hj)) ?_;intro b h1 h2)
   (refine rwg (getElem?_map ..) ?_;refine rwg (List.getElem?_range hj ..) ?_;refine rwg (h1 ..) ?_;refine rwg ((bT9 h2).1) ?_)
   refine (?_:some (bL1 (ys.getD j _))=_);(refine rwg (List.getD_eq_getElem?_getD ..) ?_;refine rwg (getElem?_eq_getElem hj ..) ?_);rfl
  ·(refine rwg (List.getElem?_eq_none (by rw [length_map,length_range];(clear hc hz hn hl hn2 hll;lia)) ..) ?_;refine rwg (List.getElem?_eq_none (by (clear hc hz hn hn2 hll;lia)) ..) ?_;rfl)
 repeat ((fail_if_success (with_reducible show wpAny _ _ (getMethod (Value.ref 90) _ _) _ _ _));(fail_if_success (with_reducible show wpAny _ _ (eval (PySem.Expr.Lambda _ _ _ _) _) _ _ _));(fail_if_success (with_reducible show wpAny _ _ (eval (PySem.Expr.GeneratorExp _ _ _ _) _) _ _ _));(fail_if_success (with_reducible show wpAny _ _ (call (Value.builtin "re.Pattern.sub") _) _ _ _));(fail_if_success (with_reducible show wpAny _ _ (call (Value.builtin "str.join") _) _ _ _));law_purse 400000=>(first | (k_unfold;(try dsimp only)) | walk1 | (dsimp only;walk1) | (leave1;walk_say "STEP leave1";try dsimp only)))
 k_dflt (refine' cM1 (F:=fun i y=>∃ v u,ys[i]?=some v∧y=Value.str (bL1 v) u) (g:=fun o=>(104,o)::rest) F1 N T C (.head off) ht (l:=lc) (items:=toArray vs) hlc rfl rfl rfl rfl ?gclos ?gcell ?g0 ?gx ?gk ?groom ?gs ?gev ?gq ?gh)
 case gev=>(first | (k_unfold;(try dsimp only)) | walk1 | (dsimp only;walk1) | (leave1;walk_say "STEP leave1";try dsimp only));exact ⟨rfl,rfl⟩
 case gclos=>exact rfl
 case gcell=>decide
 case g0=>decide +kernel
 case gx=>decide +kernel
 case gk=>rfl
 case groom=>k_room
 case gs=>intro _;rfl
 case gq =>
  intro code C' I href;refine cJ ys _ (fun i v hv=>?_) (fun y hy=>(hat y hy).1) (fun y hy=>le_trans (hat y hy).2.1 (by decide)) fun y hy=>(hat y hy).2.2;rw [getElem?_toArray] at hv;have hi:i < ys.length:=hll▸(List.getElem?_eq_some_iff.mp hv).1;(refine aJ9 (hys.get i _ (getElem?_eq_getElem hi)) ?_;intro t ht')
  rw [hv] at ht';exact ⟨_,t,getElem?_eq_getElem hi,Option.some.inj ht'⟩
 case gh =>
  intro a5 s5 ps5 K5 F5 N5 hT5 hd5 ho5 hg5 hLK hK X5;obtain ⟨h5,g5,d5,t5,o5⟩:=s5;dsimp only at F5 N5 hd5 ho5 hg5 hK ⊢
  subst hd5 ho5
  repeat ((fail_if_success (with_reducible show wpAny _ _ (getMethod (Value.ref 90) _ _) _ _ _));(fail_if_success (with_reducible show wpAny _ _ (eval (PySem.Expr.Lambda _ _ _ _) _) _ _ _));(fail_if_success (with_reducible show wpAny _ _ (eval (PySem.Expr.GeneratorExp _ _ _ _) _) _ _ _));(fail_if_success (with_reducible show wpAny _ _ (call (Value.builtin "re.Pattern.sub") _) _ _ _));(fail_if_success (with_reducible show wpAny _ _ (call (Value.builtin "str.join") _) _ _ _));law_purse 400000=>(first | (k_unfold;(try dsimp only)) | walk1 | (dsimp only;walk1) | (leave1;walk_say "STEP leave1";try dsimp only)))
  refine cA3 (n:=vs.length) F5 N5 X5 hLK hK (fun j=>bL1 (ys.getD j (ofString ""))) ?htx ?hok ?hjq (by rw [sizeLine_eq];(clear hc hz hn hl htx hLK hg5;lia))
  case htx =>
   rintro j v ⟨y,u,hy,rfl⟩;exact ⟨u,by rw [List.getD_eq_getElem?_getD,hy];rfl⟩
  case hok =>
   rw [hll];unfold JoinOk Builtin.Str.tooLong;rw [Bool.not_eq_true',decide_eq_false_iff_not,List.foldl_toArray,sizeLine_eq];have:=aT5 (sep:=ofString "-") (by decide +kernel) ((List.range ys.length).map fun j=>bL1 (ys.getD j (ofString ""))) 0 fun x hx=>by
    (refine aA6 hx ?_;intro j hj eo0;clear hx;subst eo0)
    have hj:=List.mem_range.mp hj;(refine rwg (List.getD_eq_getElem?_getD ..) ?_;refine rwg (getElem?_eq_getElem hj ..) ?_)
    exact (hat _ (getElem_mem hj)).2.1
   rw [length_map,length_range] at this;(clear hc hz hn hl hll htx hLK hg5;lia)
  case hjq =>
   intro s' t' F6 N6 hd6 ho6 hg6;(refine rwg (hll ..) ?_;refine rwg (htx ..) ?_)
   exact hQ s' t' ps5 (cD1 F6 hc) N6 hT5 hd6 ho6 fun z=>hg6 (hg5 z)
end
theorem WMain.t104 {P:Params} {v:List Value} {h0:List (Addr × Obj)} (h:WMain P v h0):∃ ps r,h0=(104,tabObj ps)::r∧Trip ps.toList∧∀ ps',Trip ps'.toList→WMain P v ((104,tabObj ps')::r):=by
 cases h with
 | none ps tr=>exact ⟨ps,_,rfl,tr,fun ps' t=>.none ps' t⟩
 | strm ps tr c0 D vs n x o ok=>exact ⟨ps,_,rfl,tr,fun ps' t=>.strm ps' t c0 D vs n x o ok⟩
 | lex ps tr c0 D ln tl vs n xs o ok l0 l1=>exact ⟨ps,_,rfl,tr,fun ps' t=>.lex ps' t c0 D ln tl vs n xs o ok l0 l1⟩
section
variable {prog:Program} {w:World} {p:Program} {loose:List Str} {mean:ExcName→Option Value} {mg mb:Str→Option Value} {A:Around} {V:Vw} {m:Str→Option Value} {ρ:List Addr} {σ:St} {s:Shared} {env:Env} {G:Gx}
theorem tr_ok {fd:FuncData} {e:Expr} {K:AV→St→Prop} {Q:Value→Shared→Prop} {E:Value→Shared→Prop} (hfd:bC9 (Mine.hd.heap_39 w.params) (.ref 109)=some (109,fd)) (x:XM w p loose mean mg mb V.h₀) (a:AOk 1 A) (H:FOk G prog w A V (aK9 fd 109 V.L)) (ov:V.Over (WZ (WMain w.params))) (R:Rel V m ρ σ s.heap) (h:(trHk w.params).exe G e σ K) (hQ:Res V m ρ s K Q):wpAny (model prog w) A (eval e (aK9 fd 109 V.L)) Q E s:=by
 have en:(bC9 (Mine.hd.heap_39 w.params) (.ref 109)).map (fun q=>aK9 q.2 109 V.L)=some (bR1 V.L):=by kernel_rfl
 rw [hfd] at en;have en:aK9 fd 109 V.L=bR1 V.L:=Option.some.inj en;rw [en] at H ⊢;cases bH6 ov R with
 | mk pre hz h0 nw e0 F N Pc hv up =>
  refine hide fun G_ k_=>?_;(refine aD1 (hv.t104) ?_;intro ps r eo0 tr hps;clear hv;subst eo0)
  refine k_ ?_;have eq:∀ u:Obj,(pre++(hz++((104,u)::r)))++nw=(pre++hz)++([(104,u)]++(r++nw)):=fun u=>by simp only [append_assoc,cons_append,nil_append]
  have nd:=Pc.nd;rw [eq] at nd N;have off:∀ q∈(pre++hz)++(r++nw),q.1≠104:=fun q hq=>by
   rw [map_append (l₁:=pre++hz),nodup_append] at nd;rcases mem_append.mp hq with hq | hq
   ·exact nd.2.2 _ (mem_map_of_mem (f:=(·.1)) hq) _ (.head _)
   ·exact fun z=>(nodup_cons.mp nd.2.1).1 (z▸mem_map_of_mem (f:=(·.1)) hq)
  have N1:News V.h₀ V.L s.heap ((104,tabObj ps)::((pre++hz)++(r++nw))):=fun q hq=>by
   rcases mem_cons.mp hq with rfl | hq
   ·exact N _ (mem_append_right _ (.head _))
   ·rcases mem_append.mp hq with hq | hq
    ·exact N q (mem_append_left _ hq)
    ·exact N q (mem_append_right _ (.tail _ hq))
  have fin:∀ (h':Heap) (ps':Array Value),Fr V.h₀ V.L h' m→News V.h₀ V.L h' ((104,tabObj ps')::((pre++hz)++(r++nw)))→Trip ps'.toList→Rel V m ρ σ h':=fun h' ps' F' N' t'=>by
   refine ⟨_,nw,e0,F',fun q hq=>?_,up _ _ (hps ps' t'),?_,Pc.len,Pc.ob,Pc.lo,Pc.ce⟩
   ·replace hq:=(eq ..)▸hq;rcases mem_append.mp hq with hq | hq
    ·exact N' q (.tail _ (mem_append_left _ hq))
    rcases mem_cons.mp hq with rfl | hq
    ·exact N' _ (.head _)
    ·exact N' q (.tail _ (mem_append_right _ hq))
   ·refine rwg (eq ..) ?_;rw [map_append (l₁:=pre++hz)] at nd ⊢;exact nd
  refine ((a.mono (zero_le _)).inA.mono (d':=350) (u':=500) (by decide) (by decide)).wrun fun outer=>?_;have h:=cS9 h;split at h
  ·refine hide fun G_ k_=>?_;(refine aE8 h ?_;clear h;intro hrec h)
   (refine aA h ?_;intro b hb h)
   (refine aA h ?_;intro xs hxs h)
   obtain ⟨ys,hys,zs,⟨hz',hn⟩,hK⟩:=aH1 h;(refine aA3 (Pc.lo _ _ hb) ?_;intro v hv' hi)
   replace hv':=(H.nm ..)▸hv';replace hi:=(Eq.symm (e0 ..))▸hi;(refine aE H.v.gv R hi hxs ?_;intro l vs eo0 hl i;clear hi;subst eo0)
   refine k_ ?_;refine cH3 x.X x.T x.c2 F N1 off tr hv' hl (i.strs hys) hz' hn hrec fun s' t' ps' F' N' T' hd ho hg=>?_;refine hide fun G_ k_=>?_;obtain ⟨h',g',d',tk',o'⟩:=s';dsimp only at F' N' hd ho hg
   subst hd ho;refine k_ ?_;exact hQ (.str _) σ _ [] h' tk' ⟨g',hg⟩ (fin h' ps' F' N' T').toks (aF5 _) hK
  ·refine hide fun G_ k_=>?_;(refine aE8 h ?_;clear h;intro hrec h)
   (refine aA h ?_;intro b hb h)
   (refine aI8 (aH1 h) ?_;intro y hy hs hK)
   (refine aA3 (Pc.lo _ _ hb) ?_;intro v hv' hi)
   replace hv':=(H.nm ..)▸hv';(refine AV.str_el hy hi ?_;intro t eo0;clear hi;subst eo0)
   refine k_ ?_;exact cP x.X x.T x.c2 F N1 off tr hv' hs hrec fun h' tk' t' ps' F' N' T'=>hQ (.str _) σ _ [] h' tk' (.same _) (fin h' ps' F' N' T').toks (aF5 _) hK
end
theorem cK3 (P:Params):∀ q∈globD,nsIn (Mine.hd.heap_39 P) mainGlobals q.1=some (some q.2):=by
 have e:(globD.map fun q=>nsIn (Mine.hd.heap_39 P) mainGlobals q.1)=globD.map fun q=>some (some q.2):=by kernel_rfl
 exact List.map_inj_left.mp e
theorem cQ3 (P:Params):∀ q∈globB,nsIn (Mine.hd.heap_39 P) mainGlobals q.1=some none∧bootBuiltins q.1=some q.2∧q.1≠"__name__":=by
 have e:(globB.map fun q=>nsIn (Mine.hd.heap_39 P) mainGlobals q.1)=globB.map fun u_=>some none:=by kernel_rfl
 have e2:(globB.map fun q=>bootBuiltins q.1)=globB.map fun q=>some q.2:=by kernel_rfl
 have e3:∀ q∈globB,q.1≠"__name__":=by decide +kernel
 exact fun q hq=>⟨List.map_inj_left.mp e q hq,List.map_inj_left.mp e2 q hq,e3 q hq⟩
noncomputable def avOf (v:Value):AV:=(vint? v).elim ((vstr? v).elim (.val v) .str) .int
theorem dA4 {β ρ:List Addr} (v:Value):(avOf v).Is β ρ v:=by cases v<;>first | exact ⟨_,rfl⟩ | rfl
theorem avs_is {β ρ:List Addr} (vs:List Value):AllIs β ρ (vs.map avOf) vs:=by
 induction vs with
 | nil=>exact .nil
 | cons v r ih=>exact .cons (dA4 v) ih
noncomputable def dseq (d:Data):Option (List Value × Nat):=if h:d.ctorIdx=2 then some (Data.seq.elim d h fun a n=>(a.toList,n)) else none
theorem cU4 {d:Data} {p:List Value × Nat} (h:dseq d=some p):d=.seq (toArray p.1) p.2:=by
 unfold dseq at h;by_cases hk:d.ctorIdx=2
 ·rw [dif_pos hk] at h;exact Data.seq.elim (motive:=fun z=>∀ hk,Data.seq.elim z hk (fun a n=>(a.toList,n))=p→z=.seq (toArray p.1) p.2) d hk (fun u_ u_ u_ e=>e▸rfl) hk (Option.some.inj h)
 ·rw [dif_neg hk] at h;cases h
set_option tactic.hygienic true in
theorem bT {a:Addr} {ao:AO}:∀ {l:List (Addr × AO)},l.lookup a=some ao→(a,ao)∈l
 | (b,bo)::r,h=>by
  rw [lookup_cons] at h;split at h
  ·rename_i e;obtain rfl:=Option.some.inj h;refine rwg (eq_of_beq e ..) ?_;exact .head _
  ·exact .tail _ (bT h)
theorem cT5 (P:Params):(tabL.map fun q=>((Mine.hd.heap_39 P).lookup q.1).bind fun o=>(dseq o.data).map fun p=>(o.cls,AO.tup (p.1.map avOf)))=tabL.map fun q=>some (Value.type "tuple",q.2):=by kernel_rfl
theorem tab_at {P:Params} {β:List Addr} {a:Addr} {ao:AO} (h:(a,ao)∈tabL):∃ o,(Mine.hd.heap_39 P).lookup a=some o∧ao.Is β [] o:=by
 (refine aA1 (List.map_inj_left.mp (cT5 P) _ h) ?_;intro o ho e)
 (refine aB9 e ?_;clear e;intro p hp e)
 have e2:AO.tup (p.1.map avOf)=ao:=(Prod.mk.inj e).2;exact ⟨o,ho,e2▸⟨(Prod.mk.inj e).1,_,_,cU4 hp,avs_is _⟩⟩
theorem fnL_ok (P:Params):∀ f∈fnL,keepIn (Mine.hd.heap_39 P) (.ref f)=true:=by
 have e:(fnL.all fun f=>keepIn (Mine.hd.heap_39 P) (.ref f))=true:=by kernel_rfl
 exact all_eq_true.mp e
section
variable {prog:Program} {w:World} {p:Program} {loose:List Str} {mean:ExcName→Option Value} {mg mb:Str→Option Value}
set_option tactic.hygienic true in
theorem cW3:UOk (aF8 w.params) prog w (XM w p loose mean mg mb) 1 where
 keeps:=fun h h' x k=>x.keeps k
 inn:=fun h x=>x.X
 nolim:=fun h x=>x.T.nolimit
 glob:=fun h₀ x A env y v s L m Q E pos e1 e2 hk hg hx hd F hq=>by
  have hg:(match globD.lookup y with
   | some v=>some v
   | none=>globB.lookup y)=some v:=hg
  cases hc:globD.lookup y with
  | some u =>
   rw [hc] at hg;obtain rfl:=Option.some.inj hg;exact glob_K x.X x.T e1 hk (cK3 _ _ (aE0 hc)) hx hd F hq
  | none =>
   rw [hc] at hg;(refine aH8 (cQ3 w.params _ (aE0 hg)) ?_;intro g1 g2 g3)
   exact cA0 x.X x.T e1 e2 hk g1 g2 g3 hx hd F hq
 tab:=fun h₀ β x a ao h=>by
  have h:tabL.lookup a=some ao:=h;(refine aA3 (tab_at (P:=w.params) (β:=β) (bT h)) ?_;intro o ho hi)
  exact (aA0 (o) (x.X _ _ ho) (hi))
 fz:=WZ.fz
 frz:=WZ.frz
 fn:=fun h₀ g x h=>by
  have h:fnU g=true:=h;cases g<;>first | exact fun h' u_=>aD9 rfl | (exact absurd h Bool.false_ne_true) | skip
  rename_i f;(refine aA3 (List.any_eq_true.mp h) ?_;intro f' hf e)
  clear h;obtain rfl:=eq_of_beq e;exact fun h' k=>keeps_K (fnL_ok w.params _ hf) h' (x.X.keeps k)
 vmeth:=fun A V m σ a nm g ρ s pl Q E ha x ov R h hq=>by
  have h:bJ1 σ.wd a nm=some g:=h;unfold bJ1 at h;cases bH6 ov R with
  | mk pre hz h0 nw e0 F N Pc hv up =>
   generalize σ.wd.v=v at h hv;clear Pc;cases hv with
   | none ps tr=>cases h
   | strm ps tr c0 D vs n y o ok=>cases h
   | lex ps tr c0 D ln tl vs n xs o ok l0 l1 =>
    have h:(match a==D.Xa && nm==ofString "get_token" with
     | true=>some (137:Addr)
     | false=>none)=some g:=h
    cases hc:a==D.Xa && nm==ofString "get_token" with
    | false=>rw [hc] at h;cases h
    | true =>
     rw [hc] at h;obtain rfl:=Option.some.inj h;rw [Bool.and_eq_true] at hc;clear h;clear h;clear h;obtain rfl:=eq_of_beq hc.1;refine bZ9 (D:=D) (ln:=ln) (tl:=tl) (vs:=vs) (n:=n) x.X x.T F (fun q hq=>N q (mem_append_left _ (mem_append_right _ (mem_append_right _ (.tail _ (.tail _ hq)))))) (.inr ⟨eq_of_beq hc.2,rfl⟩) (hq fun h' k=>?_);exact keeps_K (K:=Mine.hd.heap_39 w.params) (by kernel_rfl) h' (x.X.keeps k)
 prim:=fun A base V m g as σ K vs ρ s Q E a x b ov R i hp h hQ=>by
  cases g<;>first | (exact absurd hp Bool.false_ne_true) | skip
  rename_i f;have h:sel (f==102) (escP as σ K) (sel (f==137) (cE as σ K) (sel (f==147) (lexP as σ K) (aG8 (f==175) (bN5 as σ K)))):=h;refine aH6 h (fun e h=>?_) (fun u_ h=>?_)
  ·refine rwg (eq_of_beq e ..) ?_;exact cO6 x.X x.T a R i h hQ
  refine aH6 h (fun e h=>?_) (fun u_ h=>?_)
  ·refine rwg (eq_of_beq e ..) ?_;exact bX4 x.X x.T a ov R i h hQ
  refine aH6 h (fun e h=>?_) (fun u_ h=>?_)
  ·refine rwg (eq_of_beq e ..) ?_;exact cO8 x.X x.T a ov R i h hQ
  (refine aB5 h ?_;intro e h)
  refine rwg (eq_of_beq e ..) ?_;exact cD8 x a ov R i h hQ
 exe:=fun f fd hf A G V e m σ K ρ s Q E a x H hW R h hQ=>by
  have ov:=H.v.ov;rw [hW] at ov;have h:(hkU w.params f).exe G e σ K:=h;unfold hkU at h;split at h
  ·rename_i e';obtain rfl:f=163:=eq_of_beq e';exact sg_ok hf x a H R h hQ
  split at h
  ·exact ld_ok x a H R h hQ
  split at h
  ·exact h.elim
  split at h
  ·rename_i e';obtain rfl:f=109:=eq_of_beq e';exact tr_ok hf x a H ov R h hQ
  ·exact h.elim
 exo:=fun f fd hf A G V st m σ K ρ s Q E a x H X hW R h hQ=>by
  have h:(hkU w.params f).exo G st σ K:=h;unfold hkU at h;split at h
  ·exact h.elim
  split at h
  ·exact h.elim
  split at h
  ·exact tk_ok H X R h hQ
  split at h
  ·exact h.elim
  ·exact h.elim
end
noncomputable abbrev bF6:List (Addr × Addr):=[(108,104),(174,170)]
noncomputable def cW (P:Params):Prop:=∀ ns:List Int,ns.length≤63→ex (gFn P 4 202 (bH2 P) [(ofString "words",0),(ofString "items",1)] [.ints ns]) 60 (bB8 P 202) ⟨[(ofString "script",.par 0)],[.cell none,.cell none],⟨[],fun u_=>none⟩⟩ fun fl u_=>fl=.ret (.bool true)
theorem WZ.grown {P:Params} {wd:Wd} {l:List (Addr × Obj)} (h:WZ (WMain P) wd l):∀ b∈[104,170],∃ ps,(b,tabObj ps)∈l:=by
 cases h with
 | mk hz h0 hf hv =>
  generalize wd.v=v at hv;have key:∀ b∈[104,170],∃ ps,(b,tabObj ps)∈h0:=by
   intro b hb;cases hv with
   | none ps tr =>
    rcases mem_cons.mp hb with rfl | hb
    ·exact ⟨_,.head _⟩
    ·refine rwg (mem_singleton.mp hb ..) ?_;exact ⟨_,.tail _ (.head _)⟩
   | strm ps tr c0 D vs n x o ok =>
    rcases mem_cons.mp hb with rfl | hb
    ·exact ⟨_,.head _⟩
    ·refine rwg (mem_singleton.mp hb ..) ?_;exact ⟨_,.tail _ (.head _)⟩
   | lex ps tr c0 D ln tl vs n xs o ok l0 l1 =>
    rcases mem_cons.mp hb with rfl | hb
    ·exact ⟨_,.head _⟩
    ·refine rwg (mem_singleton.mp hb ..) ?_;exact ⟨_,.tail _ (.head _)⟩
  exact fun b hb=>let ⟨ps,hp⟩:=key b hb;⟨ps,mem_append_right _ hp⟩
theorem cZ6 {prog:Program} {w:World} {p:Program} {loose:List Str} {mean:ExcName→Option Value} {mg mb:Str→Option Value} {s:Shared} {E:Value→Shared→Prop} {l:Addr} {vs:List Value} {ns:List Int} (hlaw:cW w.params)
  (X:(Mine.hd.heap_39 w.params).In s.heap) (hP:∀ P∈[104,170],s.heap.get? P=some (tabObj #[])) (T:Top p loose mean mg mb s.heap) (hl:s.heap.IsList l vs.toArray) (hi:IntsAre vs ns) (hn:ns.length≤63) (hg:s.gens=#[]) :
  wpAny (model prog w) callerA (call (.ref 202) [.ref l]) (fun v s'=>v=.bool true∧OldK s.heap s'.heap∧s'.os=s.os∧AllBare s'.gens) E s:=by
 have hT:TabsAt bF6 s.heap:=List.forall_mem_cons.mpr ⟨⟨codeHd_of_K (c:=108) (P:=104) X (by kernel_rfl),hP 104 (.head _)⟩,List.forall_mem_cons.mpr ⟨⟨codeHd_of_K (c:=174) (P:=170) X (by kernel_rfl),hP 170 (.tail _ (.head _))⟩,fun u_ h=>nomatch h⟩⟩;have hc:=ghost_code hT;refine hide fun G_ k_=>?_;obtain ⟨lo,x'⟩:∃ lo,XM w topProg lo mean mg mb (ghostOf s.heap bF6):=⟨_,ghost_K hT X (by kernel_rfl),ghost_top hT T,hc.2.1,hc.1⟩;have O:=cW3 (prog:=prog) (w:=w) (p:=topProg) (loose:=lo) (mean:=mean) (mg:=mg) (mb:=mb);(refine bH1 ((in202 w.params).fd) ?_;intro fd e1 c2 e3 e4 h4 e2)
 have hlaw:=hlaw ns hn;obtain ⟨ol,hol,hcl,nl,hdl⟩:=ghost_list hT hl;refine k_ ?_;have a6:AOk (1 + 4 + 1) callerA:=⟨rfl,by decide +kernel,by decide +kernel,[],rfl⟩;refine bQ7 O (bD2 O 4) a6 e1 (cG9 c2) h4 (bS1 e2) (h0':=ghostOf s.heap bF6) (β':=[l]) (WW:=WZ (WMain w.params)) (b0:=[.ints ns]) (as':=[.par 0]) (wd:=⟨[],fun u_=>none⟩) (hw:=[(104,tabObj #[]),(170,tabObj #[])]) (K':=fun fl u_=>fl=.ret (.bool true)) x' ?_ (fun wd l h=>⟨[],l,rfl,h,fun u_ u_ h'=>h'⟩) (fun b o e=>of_hideAll _ e) (hideAll_size _ _) ?_ ?_ (by decide) (.mk [] _ (fun u_ u_ q=>nomatch q) (.none #[] .nil)) (.cons (aA0 (l) (rfl) (rfl)) .nil) (by refine rwg (e4 ..) ?_;rfl) (by refine rwg (e4 ..) ?_;rfl) (by (refine rwg (e3 ..) ?_;refine rwg (e4 ..) ?_);exact hlaw) ?_
 ·intro n ao e;rcases n with _ | n
  ·obtain rfl:=Option.some.inj e;exact ⟨l,ol,rfl,hol,hcl,vs,nl,hdl,hi⟩
  ·simp at e
 ·intro q hq;rcases mem_cons.mp hq with rfl | hq
  ·exact hP 104 (.head _)
  ·refine rwg (mem_singleton.mp hq ..) ?_;exact hP 170 (.tail _ (.head _))
 ·intro q hq;exact hideAll_none _ (mem_map_of_mem (f:=(·.1)) hq)
 ·intro fl σ' fv m2 r h2 tk2 g2 cl R2 i2 k2;subst k2;cases i2 with
  | ret hv =>
   refine hide fun G_ k_=>?_;obtain rfl:_=Value.bool true:=hv;(refine R2.el ?_;intro hw2 nw2 _ F2 N2 P2)
   refine k_ ?_;have hold:∀ b o,s.heap.get? b=some o→b∉[104,170]→h2.get? b=some o:=fun b o e q=>F2.keep b o (hideAll_get _ e q);have W2:=P2.hW;refine ⟨rfl,?_,rfl,g2.2 (by refine rwg (hg ..) ?_;exact .of_eq rfl)⟩;have hgr:∀ P∈[104,170],∃ ps,h2.get? P=some (tabObj ps):=fun P hP'=>by
    refine hide fun G_ k_=>?_;(refine aJ9 (WZ.grown W2 P hP') ?_;intro ps hp)
    refine k_ ?_;exact ⟨ps,(N2 _ (mem_append_left _ hp)).1⟩
   have grown:∀ b o,b∈[104,170]→s.heap.get? b=some o→isCodeTable s.heap b∧o=tabObj #[]:=fun b o hb e=>by
    have e2:=hP b hb;rw [e] at e2;obtain ⟨q,hq,rfl⟩:∃ q∈bF6,q.2=b:=by
     clear e;rcases mem_cons.mp hb with rfl | hb
     ·exact (aA0 (_) (.head _) (rfl))
     ·refine rwg (mem_singleton.mp hb ..) ?_;exact (aA0 (_) (.tail _ (.head _)) (rfl))
    exact ⟨((hT q hq).1.tab (hT q hq).2).isCodeTable,Option.some.inj e2⟩
   refine ⟨fun b o e=>?_,fun b o e=>?_⟩
   ·by_cases hb:b∈[104,170]
    ·refine hide fun G_ k_=>?_;(refine aE8 (grown b o hb e) ?_;intro ht eo0;clear e;subst eo0)
     (refine aJ9 (hgr b hb) ?_;intro ps hP')
     refine k_ ?_;exact .inr (.inl ⟨ht,rfl,#[],ps,rfl,by refine rwg (Array.empty_append ..) ?_;exact hP'⟩)
    ·exact .inl (hold b o e hb)
   ·by_cases hb:b∈[104,170]
    ·refine hide fun G_ k_=>?_;(refine aJ9 (hgr b hb) ?_;intro ps hP')
     refine k_ ?_;exact ⟨_,hP'⟩
    ·exact ⟨o,hold b o e hb⟩
noncomputable def aQ1 (p:Program) (w:World) (n:Nat):SharedT→Thread→Option SharedT :=
 Nat.rec (fun u_ u_=>none) (fun u_ ih s t=>t.atExitBegin.elim ((stepT (denote treeTable) p w s t).bind fun q=>ih q.1 q.2) fun l=>bif l.isEmpty then some s else none) n
theorem bO7 {p:Program} {w:World} (n:Nat):∀ {s r:SharedT} {t:Thread},aQ1 p w n s t=some r→importEnds treeTable p w n s.abs t=some r.abs:=by
 induction n with
 | zero=>intro _ _ _ h;cases h
 | succ n ih =>
  intro s r t h;replace h:t.atExitBegin.elim ((stepT (denote treeTable) p w s t).bind fun q=>aQ1 p w n q.1 q.2) (fun l=>bif l.isEmpty then some s else none)=some r:=h;unfold importEnds
  revert h
  cases t.atExitBegin with
  | none =>
   intro h;(refine aA1 h ?_;intro q hs h)
   refine rwg (stepT_spec hs) ?_;exact ih h
  | some l =>
   intro h;cases l with
   | nil=>cases h;rfl
   | cons=>cases h
noncomputable def bE1 (p:Program) (w:World) (n₀:Nat) (ann:Option Value) (n:Nat):SharedT→Thread→Option SharedT :=
 Nat.rec (fun u_ u_=>none) (fun u_ ih s t=>bif through t then some s else bif stepOk n₀ ann t then (stepT (denote treeTable) p w s t).bind fun q=>ih q.1 q.2 else none) n
theorem bY2 {p:Program} {w:World} {n₀:Nat} {ann:Option Value} (n:Nat):∀ {s r:SharedT} {t:Thread},bE1 p w n₀ ann n s t=some r→topRun treeTable p w n₀ ann n s.abs t=some r.abs:=by
 induction n with
 | zero=>intro _ _ _ h;cases h
 | succ n ih =>
  intro s r t h;replace h:(bif through t then some s else bif stepOk n₀ ann t then (stepT (denote treeTable) p w s t).bind fun q=>bE1 p w n₀ ann n q.1 q.2 else none)=some r:=h;unfold topRun
  revert h
  cases through t with
  | true=>intro h;cases h;rfl
  | false =>
   cases stepOk n₀ ann t with
   | false=>intro h;cases h
   | true =>
    intro h;(refine aA1 h ?_;intro q hs h)
    refine rwg (stepT_spec hs) ?_;exact ih h
noncomputable def cW8 (v:Value):Option Addr:=if h:v.ctorIdx=Value.ctorIdx (.ref 0) then some (Value.ref.elim v h fun a=>a) else none
theorem dB9:∀ {v:Value} {a:Addr},cW8 v=some a→v=.ref a:=by
 intro v a h;unfold cW8 at h;by_cases hk:v.ctorIdx=Value.ctorIdx (.ref 0)
 ·rw [dif_pos hk] at h;exact Value.ref.elim (motive:=fun z=>∀ hk,Value.ref.elim z hk (fun a=>a)=a→z=.ref a) v hk (fun b u_ e=>congrArg Value.ref e) hk (Option.some.inj h)
 ·rw [dif_neg hk] at h;cases h
noncomputable def bD5 (m:Str) (s:SharedT):Option SharedT :=
 (boundIn s.abs.heap sysModules m).bind fun v=>(cW8 v).bind fun a=>(tameNamesOf? m).bind fun row=>(s.abs.heap.get? a).bind fun o=>o.dict.bind fun D=>(s.tree.get D).bind fun od=>(alive od).bind fun od1 =>
  (fenceDict? m row od1).bind fun od'=>bif Nat.blt D s.n then some {s with tree:=s.tree.set D fun u_=>od'} else none
theorem bY0 {m:Str} {s r:SharedT} (h:bD5 m s=some r):fenceModule? m s.abs=some r.abs:=by
 refine hide fun G_ k_=>?_;(refine aA1 h ?_;clear h;intro v e1 h)
 (refine aA1 h ?_;clear h;intro a e0 h)
 replace e1:=e1.trans (congrArg some (dB9 e0));clear e0;(refine aA1 h ?_;clear h;intro row e2 h)
 (refine aA1 h ?_;clear h;intro o e3 h)
 (refine aA1 h ?_;clear h;intro D e4 h)
 (refine aA1 h ?_;clear h;intro od e5 h)
 (refine aA1 h ?_;clear h;intro od1 e6 h)
 (refine aA1 h ?_;clear h;intro od' e7 h)
 refine k_ ?_;clear k_;cases e8:Nat.blt D s.n with
 | false=>rw [e8] at h;cases h
 | true =>
  rw [e8] at h;cases h
  have e9:s.abs.heap.get? D=some od1:=(abs_get (Nat.blt_eq.mp e8) e5).trans e6;unfold fenceModule?;refine rwg e1 ?_;refine rwg e2 ?_;refine (?_:(match s.abs.heap.get? a with | some o=>_ | none=>none)=_);refine rwg e3 ?_;refine (?_:(match o.dict with | some D=>_ | none=>none)=_);refine rwg e4 ?_;refine (?_:(match s.abs.heap.get? D with | some od=>_ | none=>none)=_);refine rwg e9 ?_;refine (?_:(fenceDict? m row od1).map _=_);refine rwg e7 ?_;exact congrArg some (congrArg (fun h=>({s.abs with heap:=h}:Shared)) (absHeap_set e5).symm)
noncomputable def hp:Program:=PySem.Challenge.pw_in0180_01
noncomputable def startT:SharedT:=⟨.nil,0,{},#[],{},1,(start (opening hp)).1.os⟩
theorem cC9:startT.abs=(start (opening hp)).1:=rfl
noncomputable def bW8:List Str:=[ofString "_sre"]
theorem bE0:importedModules hp.main.body=bW8:=by kernel_rfl
theorem noNp:hp.main.body.any namesNumpy=false:=by kernel_rfl
noncomputable def hq:Program:=view hp [0,1,3,4,5,6,7,8,9,10,11,12,13,14,15,16,17,18,19,20,21,22,23,24,25,27,28,30,32,34,35,36,37,38,39,40,41,42]
noncomputable abbrev bT6:List Str:=[ofString "_filemode_table",ofString "_twin_re_1",ofString "_special_chars_map"]
noncomputable def hvs:List (Str × WData):=[(ofString "_filemode_table",.tuple [.tuple [.tuple [.int 40960,.str ⟨#[108]⟩],.tuple [.int 49152,.str ⟨#[115]⟩],.tuple [.int 32768,.str ⟨#[45]⟩],.tuple [.int 24576,.str ⟨#[98]⟩],.tuple [.int 16384,.str ⟨#[100]⟩],.tuple [.int 8192,.str ⟨#[99]⟩],.tuple [.int 4096,.str ⟨#[112]⟩]],.tuple [.tuple [.int 256,.str ⟨#[114]⟩]],.tuple [.tuple [.int 128,.str ⟨#[119]⟩]],.tuple [.tuple [.int 2112,.str ⟨#[115]⟩],.tuple [.int 2048,.str ⟨#[83]⟩],.tuple [.int 64,.str ⟨#[120]⟩]],.tuple [.tuple [.int 32,.str ⟨#[114]⟩]],.tuple [.tuple [.int 16,.str ⟨#[119]⟩]],.tuple [.tuple [.int 1032,.str ⟨#[115]⟩],.tuple [.int 1024,.str ⟨#[83]⟩],.tuple [.int 8,.str ⟨#[120]⟩]],.tuple [.tuple [.int 4,.str ⟨#[114]⟩]],.tuple [.tuple [.int 2,.str ⟨#[119]⟩]],.tuple [.tuple [.int 513,.str ⟨#[116]⟩],.tuple [.int 512,.str ⟨#[84]⟩],.tuple [.int 1,.str ⟨#[120]⟩]]])]
noncomputable abbrev hH:Hook:=kmHook hd.heap_39 [2,3,32,34,35,37,38,39,41,42,44,45,46,47,48,49,50,51,52,53,54,55,56,57,58,59,60,61,62,63,64,65,66,67,68,69,70,71,72,73,74,75,76,77,78,79,81,82,84,85,89,90,92,96,98,99,101,102,103,105,106,108,109,117,119,120,122,123,124,126,127,129,130,131,133,134,136,137,138,140,141,143,144,145,146,147,148,149,152,155,156,157,159,160,162,163,164,167,168,169,171,172,174,175,176,179,180,181,183,184,186,187,188,191,192,193,196,197,198,201,202] (fun u_=>by kernel_rfl) [104,170]
noncomputable abbrev hXt:Shared→Bool:=fun s=>xlAt hq hvs s && recOk (RowW.records PySem.Challenge.rw_in0180_01.row.toRowW) s
noncomputable abbrev seenT (s:SharedT):=(openSeen hq bT6 bW8 hXt true s.abs,Hook.obs hH s.abs)
noncomputable def hO (P:Params) (a:Nat):Obj:=((hd.heap_39 P).find? fun x=>Nat.beq x.1 a).elim default fun x=>x.2
noncomputable def dB (P:Params) (t:Nat) (l:List String):List DictEntry:=(l.foldl (fun (q:Nat × List DictEntry) x=>(q.1 + 1,q.2++[dE P x q.1 (.builtin x)])) (t,[])).2
noncomputable def dT (P:Params) (t:Nat) (l:List String):List DictEntry:=(l.foldl (fun (q:Nat × List DictEntry) x=>(q.1 + 1,q.2++[dE P x q.1 (.type x)])) (t,[])).2
noncomputable def bt1 (P:Params):BT:=.node ⟨.type "dict",none,.dict ([dE P "__name__" 1 (vS "builtins" 160),dE P "__doc__" 2 (.builtin "builtins.__doc__:str#opaque"),dE P "__package__" 3 (.builtin "builtins.__package__:str#opaque"),dE P "__loader__" 4 (.builtin "builtins.__loader__:shared#opaque"),dE P "__spec__" 5 (.builtin "builtins.__spec__#opaque")]++dB P 6 ["__build_class__","__import__","abs","all","any","ascii","bin","breakpoint","callable","chr","compile","delattr","dir","divmod","eval","exec","format","getattr","globals","hasattr","hash","hex","id","input","isinstance","issubclass","iter","aiter","len","locals","max","min","next","anext","oct","ord","pow","print","repr","round","setattr","sorted","sum","vars"]++[dE P "None" 50 .none,dE P "Ellipsis" 51 Value.ellipsis,dE P "NotImplemented" 52 Value.notImplemented,dE P "False" 53 (.bool false),dE P "True" 54 (.bool true)]++dT P 55 ["bool","memoryview","bytearray","bytes","classmethod","complex","dict","enumerate","filter","float","frozenset","property","int","list","map","object","range","reversed","set","slice","staticmethod","str","super","tuple","type","zip"]++[dE P "__debug__" 81 (.bool true)]++dT P 82 ["BaseException","BaseExceptionGroup","Exception","GeneratorExit","KeyboardInterrupt","SystemExit","ArithmeticError","AssertionError","AttributeError","BufferError","EOFError","ImportError","LookupError","MemoryError","NameError","OSError","ReferenceError","RuntimeError","StopAsyncIteration","StopIteration","SyntaxError","SystemError","TypeError","ValueError","Warning","FloatingPointError","OverflowError","ZeroDivisionError","BytesWarning","DeprecationWarning","EncodingWarning","FutureWarning","ImportWarning","PendingDeprecationWarning","ResourceWarning","RuntimeWarning","SyntaxWarning","UnicodeWarning","UserWarning","BlockingIOError","ChildProcessError","ConnectionError","FileExistsError","FileNotFoundError","InterruptedError","IsADirectoryError","NotADirectoryError","PermissionError","ProcessLookupError","TimeoutError","IndentationError","_IncompleteInputError","IndexError","KeyError","ModuleNotFoundError","NotImplementedError","PythonFinalizationError","RecursionError","UnboundLocalError","UnicodeError","BrokenPipeError","ConnectionAbortedError","ConnectionRefusedError","ConnectionResetError","TabError","UnicodeDecodeError","UnicodeEncodeError","UnicodeTranslateError","ExceptionGroup"]++[dE P "EnvironmentError" 151 (.type "OSError"),dE P "IOError" 152 (.type "OSError"),dE P "open" 153 (.builtin "open"),dE P "quit" 154 (.builtin "builtins.quit#opaque"),dE P "exit" 155 (.builtin "builtins.exit#opaque"),dE P "copyright" 156 (.builtin "builtins.copyright#opaque"),dE P "credits" 157 (.builtin "builtins.credits#opaque"),dE P "license" 158 (.builtin "builtins.license#opaque"),dE P "help" 159 (.builtin "builtins.help#opaque")]).toArray 159,#[]⟩ (.node ⟨.type "dict",none,.dict #[dE P "builtins" 162 (.ref 4),dE P "__main__" 163 (.ref 5),dE P "_sre" 244 (.ref 12)] 3,#[]⟩ (.node ⟨.type "dict",none,.dict #[dE P "__name__" 165 (vS "re" 412),dE P "__doc__" 166 .none,dE P "__package__" 167 .none,dE P "__loader__" 168 (.builtin "__main__.__loader__#opaque"),dE P "__spec__" 169 .none,dE P "__annotations__" 170 (.ref 6),dE P "__builtins__" 171 (.ref 4),dE P "__file__" 173 (vS "/claim/cut.py" 172),dE P "__cached__" 174 .none,dE P "_sre" 275 (.ref 12),dE P "_wall" 288 (.ref 38),dE P "S_IFMT" 297 (.ref 45),dE P "S_IFDIR" 299 (.int 16384 298),dE P "S_IFCHR" 301 (.int 8192 300),dE P "S_IFBLK" 303 (.int 24576 302),dE P "S_IFREG" 305 (.int 32768 304),dE P "S_IFIFO" 307 (.int 4096 306),dE P "S_IFLNK" 309 (.int 40960 308),dE P "S_IFSOCK" 311 (.int 49152 310),dE P "S_ISUID" 313 (.int 2048 312),dE P "S_ISGID" 315 (.int 1024 314),dE P "S_ISVTX" 317 (.int 512 316),dE P "S_IRUSR" 319 (.int 256 318),dE P "S_IWUSR" 321 (.int 128 320),dE P "S_IXUSR" 323 (.int 64 322),dE P "S_IRGRP" 325 (.int 32 324),dE P "S_IWGRP" 327 (.int 16 326),dE P "S_IXGRP" 329 (.int 8 328),dE P "S_IROTH" 331 (.int 4 330),dE P "S_IWOTH" 333 (.int 2 332),dE P "S_IXOTH" 335 (.int 1 334),dE P "_filemode_table" 361 (.ref 78),dE P "filemode" 373 (.ref 85),dE P "_twin_re_1" 411 (.ref 90)] 34,#[]⟩ (.node (tO #[]) (.node (tO #[]) (.node ⟨.type "frame",none,.plain,#[some (.ref 30),some (.ref 3),some (.ref 3),none,some (vS "__main__" 164),none,some (.ref 0)]⟩ (.node (hO P 63) .nil .nil) .nil) (.node (hO P 47) (.node (hO P 79) .nil .nil) .nil)) (.node (tO #[vS "_cached" 219,vS "_set_fileattr" 220,vS "_uninitialized_submodules" 221,vS "loader" 222,vS "loader_state" 223,vS "name" 224,vS "origin" 225,vS "submodule_search_locations" 226]) (.node (hO P 39) (.node (hO P 71) .nil .nil) .nil) (.node (hO P 55) (.node ⟨.type "dict",none,.dict #[],#[]⟩ .nil .nil) .nil))) (.node ⟨.type "dict",none,.dict #[dE P "__name__" 247 (vS "_sre" 246),dE P "__doc__" 248 .none,dE P "__package__" 250 (vS "" 249),dE P "__loader__" 251 (.builtin "off-the-table:_sre.__loader__:shared#opaque"),dE P "__spec__" 252 (.builtin "off-the-table:_sre.__spec__:shared#opaque"),dE P "compile" 253 (.builtin "_sre.compile"),dE P "template" 254 (.builtin "off-the-table:_sre.template:shared#opaque"),dE P "getcodesize" 255 (.builtin "off-the-table:_sre.getcodesize:shared#opaque"),dE P "ascii_iscased" 256 (.builtin "off-the-table:_sre.ascii_iscased:shared#opaque"),dE P "unicode_iscased" 257 (.builtin "off-the-table:_sre.unicode_iscased:shared#opaque"),dE P "ascii_tolower" 258 (.builtin "off-the-table:_sre.ascii_tolower:shared#opaque"),dE P "unicode_tolower" 259 (.builtin "off-the-table:_sre.unicode_tolower:shared#opaque"),dE P "MAGIC" 261 (.int 20230612 260),dE P "CODESIZE" 263 (.int 4 262),dE P "MAXREPEAT" 265 (.int 4294967295 264),dE P "MAXGROUPS" 267 (.int 1073741823 266),dE P "copyright" 269 (vS " SRE 2.2.2 Copyright (c) 1997-2002 by Secret Labs AB " 268)] 17,#[]⟩ (.node ⟨.type "list",none,.seq #[],#[]⟩ (.node (hO P 35) (.node (hO P 67) .nil .nil) .nil) (.node (hO P 51) (.node ⟨.none,none,.func ⟨(fnD (stM 24)).1,ofString "filemode",(fnD (stM 24)).2.1,.stmts (fnD (stM 24)).2.2.1,(fnD (stM 24)).2.2.2,0,[],.none,.none,.none,.none,none,.none,.none,0⟩,#[]⟩ .nil .nil) .nil)) (.node ⟨.none,none,.seq #[.int 11 0,Value.str (Str.mk #[6,247,8,95,95,110,97,109,101,95,95,6,246,4,95,115,114,101,6,248,7,95,95,100,111,99,95,95,0,6,250,11,95,95,112,97,99,107,97,103,101,95,95,6,249,0,6,251,10,95,95,108,111,97,100,101,114,95,95,4,0,0,14,6,252,8,95,95,115,112,101,99,95,95,4,0,0,26,6,253,7,99,111,109,112,105,108,101,9,12,95,115,114,101,46,99,111,109,112,105,108,101,6,254,8,116,101,109,112,108,97,116,101,9,13,95,115,114,101,46,116,101,109,112,108,97,116,101,6,255,11,103,101,116,99,111,100,101,115,105,122,101,9,16,95,115,114,101,46,103,101,116,99,111,100,101,115,105,122,101,6,256,13,97,115,99,105,105,95,105,115,99,97,115,101,100,9,18,95,115,114,101,46,97,115,99,105,105,95,105,115,99,97,115,101,100,6,257,15,117,110,105,99,111,100,101,95,105,115,99,97,115,101,100,9,20,95,115,114,101,46,117,110,105,99,111,100,101,95,105,115,99,97,115,101,100,6,258,13,97,115,99,105,105,95,116,111,108,111,119,101,114,9,18,95,115,114,101,46,97,115,99,105,105,95,116,111,108,111,119,101,114,6,259,15,117,110,105,99,111,100,101,95,116,111,108,111,119,101,114,9,20,95,115,114,101,46,117,110,105,99,111,100,101,95,116,111,108,111,119,101,114,6,261,5,77,65,71,73,67,4,260,0,20230612,6,263,8,67,79,68,69,83,73,90,69,4,262,0,4,6,265,9,77,65,88,82,69,80,69,65,84,4,264,0,4294967295,6,267,9,77,65,88,71,82,79,85,80,83,4,266,0,1073741823,6,269,9,99,111,112,121,114,105,103,104,116,6,268,53,32,83,82,69,32,50,46,50,46,50,32,67,111,112,121,114,105,103,104,116,32,40,99,41,32,49,57,57,55,45,50,48,48,50,32,98,121,32,83,101,99,114,101,116,32,76,97,98,115,32,65,66,32]) 0,.bool true,.bool false,vS "_sre" 271],#[]⟩ (.node ⟨.none,none,.func ⟨(fnD (stM 3)).1,ofString "S_IFMT",(fnD (stM 3)).2.1,.stmts (fnD (stM 3)).2.2.1,(fnD (stM 3)).2.2.2,0,[],.none,.none,.none,.none,none,.none,.none,0⟩,#[]⟩ (.node (hO P 75) .nil .nil) .nil) (.node (hO P 59) .nil .nil)))) (.node ⟨.type "module",some 3,.plain,#[]⟩ (.node ⟨.type "code",none,.fields #[vS "<module>" 176,vS "<module>" 177,vS "/claim/cut.py" 178,.int 1 0,.int 0 0,.int 0 0,.int 0 0,.int 0 0,.ref 7,.bool false,.int 175 0,.ref 8,.none,.none,.none,.none,.int 179 0,.int 1 0,vS "/claim/cut.py" 180],#[]⟩ (.node ⟨.type "getset_descriptor",none,.fields #[vS "__weakref__" 203,.ref 14,.builtin "ExceptionGroup.__weakref__",.none],#[]⟩ (.node ⟨.none,none,.fields #[],#[]⟩ (.node (hO P 65) .nil .nil) .nil) (.node (hO P 49) (.node (hO P 81) .nil .nil) .nil)) (.node ⟨.type "getset_descriptor",none,.fields #[vS "__weakref__" 239,.ref 22,.builtin "ExceptionGroup.__weakref__",.none],#[]⟩ (.node (hO P 41) (.node (hO P 73) .nil .nil) .nil) (.node (hO P 57) (.node (hO P 89) .nil .nil) .nil))) (.node ⟨.type "dict",none,.dict #[dE P "__module__" 189 (vS "_frozen_importlib" 186),dE P "__firstlineno__" 190 (.int 971 187),dE P "__doc__" 191 (.builtin "_frozen_importlib.BuiltinImporter.__doc__:str#opaque"),dE P "_ORIGIN" 192 (vS "built-in" 188),dE P "find_spec" 193 (.builtin "_frozen_importlib.BuiltinImporter.find_spec#opaque"),dE P "create_module" 194 (.builtin "_frozen_importlib.BuiltinImporter.create_module#opaque"),dE P "exec_module" 195 (.builtin "_frozen_importlib.BuiltinImporter.exec_module#opaque"),dE P "get_code" 196 (.builtin "_frozen_importlib.BuiltinImporter.get_code#opaque"),dE P "get_source" 197 (.builtin "_frozen_importlib.BuiltinImporter.get_source#opaque"),dE P "is_package" 198 (.builtin "_frozen_importlib.BuiltinImporter.is_package#opaque"),dE P "load_module" 199 (.builtin "_frozen_importlib.BuiltinImporter.load_module#opaque"),dE P "__static_attributes__" 200 (.ref 15),dE P "__dict__" 202 (.ref 16),dE P "__weakref__" 204 (.ref 17)] 14,#[]⟩ (.node ⟨.type "dict",none,.dict #[dE P "__module__" 227 (vS "_frozen_importlib" 217),dE P "__firstlineno__" 228 (.int 562 218),dE P "__doc__" 229 (.builtin "_frozen_importlib.ModuleSpec.__doc__:str#opaque"),dE P "__init__" 230 (.builtin "_frozen_importlib.ModuleSpec.__init__#opaque"),dE P "__repr__" 231 (.builtin "_frozen_importlib.ModuleSpec.__repr__#opaque"),dE P "__eq__" 232 (.builtin "_frozen_importlib.ModuleSpec.__eq__#opaque"),dE P "cached" 233 (.builtin "_frozen_importlib.ModuleSpec.cached#opaque"),dE P "parent" 234 (.builtin "_frozen_importlib.ModuleSpec.parent#opaque"),dE P "has_location" 235 (.builtin "_frozen_importlib.ModuleSpec.has_location#opaque"),dE P "__static_attributes__" 236 (.ref 23),dE P "__dict__" 238 (.ref 24),dE P "__weakref__" 240 (.ref 25),dE P "__hash__" 241 .none] 13,#[]⟩ (.node (hO P 37) (.node (hO P 69) .nil .nil) .nil) (.node (hO P 53) (.node (hO P 85) .nil .nil) .nil)) (.node ⟨.none,none,.fields #[.int 2 0,.int 0 0,.ref 37,.int 6 0,.int 0 0,.ref 44,.int 28 0,.int 0 0,.ref 84],#[]⟩ (.node (hO P 45) (.node (hO P 77) .nil .nil) .nil) (.node (hO P 61) .nil .nil))))) (.node (hO P 2) (.node ⟨.type "module",some 0,.plain,#[]⟩ (.node ⟨.none,none,.fields #[],#[]⟩ (.node ⟨.type "getset_descriptor",none,.fields #[vS "__dict__" 201,.ref 14,.builtin "function.__dict__",.builtin "function.__dict__#set"],#[]⟩ (.node (hO P 32) (.node (hO P 64) .nil .nil) .nil) (.node (hO P 48) (.node ⟨.none,none,.fields #[],#[]⟩ .nil .nil) .nil)) (.node ⟨.type "getset_descriptor",none,.fields #[vS "__dict__" 237,.ref 22,.builtin "function.__dict__",.builtin "function.__dict__#set"],#[]⟩ (.node ⟨.none,none,.fields #[],#[]⟩ (.node (hO P 72) .nil .nil) .nil) (.node (hO P 56) (.node (tO #[.none,.none]) .nil .nil) .nil))) (.node ⟨.type "module",some 11,.plain,#[]⟩ (.node ⟨.type "dict",none,.dict #[dE P "name" 208 (vS "_sre" 207),dE P "loader" 209 (.ref 14),dE P "origin" 210 (vS "built-in" 184),dE P "loader_state" 211 .none,dE P "submodule_search_locations" 212 .none,dE P "_uninitialized_submodules" 213 (.ref 19),dE P "_set_fileattr" 214 (.bool false),dE P "_cached" 215 .none,dE P "_initializing" 243 (.bool false)] 9,#[]⟩ (.node ⟨.none,none,.func ⟨(fnD (stM 1)).1,ofString "_wall",(fnD (stM 1)).2.1,.stmts (fnD (stM 1)).2.2.1,(fnD (stM 1)).2.2.2,0,[],.none,.none,.none,.none,none,.none,.none,0⟩,#[]⟩ (.node (hO P 68) .nil .nil) .nil) (.node (hO P 52) (.node (hO P 84) .nil .nil) .nil)) (.node (tO #[]) (.node (hO P 44) (.node (hO P 76) .nil .nil) .nil) (.node (hO P 60) .nil .nil)))) (.node ⟨.type "dict",none,.dict #[],#[]⟩ (.node ⟨.type "frame",none,.plain,#[some (.ref 9),some (.ref 3),some (.ref 3),none,some (vS "__main__" 164),none,some (.ref 0)]⟩ (.node ⟨.none,none,.seq #[.int 13 0,.str ⟨#[6,189,10,95,95,109,111,100,117,108,101,95,95,6,186,17,95,102,114,111,122,101,110,95,105,109,112,111,114,116,108,105,98,6,190,15,95,95,102,105,114,115,116,108,105,110,101,110,111,95,95,4,187,0,971,6,191,7,95,95,100,111,99,95,95,9,52,95,102,114,111,122,101,110,95,105,109,112,111,114,116,108,105,98,46,66,117,105,108,116,105,110,73,109,112,111,114,116,101,114,46,95,95,100,111,99,95,95,58,115,116,114,35,111,112,97,113,117,101,6,192,7,95,79,82,73,71,73,78,6,188,8,98,117,105,108,116,45,105,110,6,193,9,102,105,110,100,95,115,112,101,99,9,50,95,102,114,111,122,101,110,95,105,109,112,111,114,116,108,105,98,46,66,117,105,108,116,105,110,73,109,112,111,114,116,101,114,46,102,105,110,100,95,115,112,101,99,35,111,112,97,113,117,101,6,194,13,99,114,101,97,116,101,95,109,111,100,117,108,101,9,54,95,102,114,111,122,101,110,95,105,109,112,111,114,116,108,105,98,46,66,117,105,108,116,105,110,73,109,112,111,114,116,101,114,46,99,114,101,97,116,101,95,109,111,100,117,108,101,35,111,112,97,113,117,101,6,195,11,101,120,101,99,95,109,111,100,117,108,101,9,52,95,102,114,111,122,101,110,95,105,109,112,111,114,116,108,105,98,46,66,117,105,108,116,105,110,73,109,112,111,114,116,101,114,46,101,120,101,99,95,109,111,100,117,108,101,35,111,112,97,113,117,101,6,196,8,103,101,116,95,99,111,100,101,9,49,95,102,114,111,122,101,110,95,105,109,112,111,114,116,108,105,98,46,66,117,105,108,116,105,110,73,109,112,111,114,116,101,114,46,103,101,116,95,99,111,100,101,35,111,112,97,113,117,101,6,197,10,103,101,116,95,115,111,117,114,99,101,9,51,95,102,114,111,122,101,110,95,105,109,112,111,114,116,108,105,98,46,66,117,105,108,116,105,110,73,109,112,111,114,116,101,114,46,103,101,116,95,115,111,117,114,99,101,35,111,112,97,113,117,101,6,198,10,105,115,95,112,97,99,107,97,103,101,9,51,95,102,114,111,122,101,110,95,105,109,112,111,114,116,108,105,98,46,66,117,105,108,116,105,110,73,109,112,111,114,116,101,114,46,105,115,95,112,97,99,107,97,103,101,35,111,112,97,113,117,101,6,199,11,108,111,97,100,95,109,111,100,117,108,101,9,52,95,102,114,111,122,101,110,95,105,109,112,111,114,116,108,105,98,46,66,117,105,108,116,105,110,73,109,112,111,114,116,101,114,46,108,111,97,100,95,109,111,100,117,108,101,35,111,112,97,113,117,101,6,200,21,95,95,115,116,97,116,105,99,95,97,116,116,114,105,98,117,116,101,115,95,95,4,0,0,15,6,202,8,95,95,100,105,99,116,95,95,4,0,0,16,6,204,11,95,95,119,101,97,107,114,101,102,95,95,4,0,0,17]⟩ 0,.bool true,.bool true,vS "" 205,.int 21 0,.str ⟨#[6,227,10,95,95,109,111,100,117,108,101,95,95,6,217,17,95,102,114,111,122,101,110,95,105,109,112,111,114,116,108,105,98,6,228,15,95,95,102,105,114,115,116,108,105,110,101,110,111,95,95,4,218,0,562,6,229,7,95,95,100,111,99,95,95,9,47,95,102,114,111,122,101,110,95,105,109,112,111,114,116,108,105,98,46,77,111,100,117,108,101,83,112,101,99,46,95,95,100,111,99,95,95,58,115,116,114,35,111,112,97,113,117,101,6,230,8,95,95,105,110,105,116,95,95,9,44,95,102,114,111,122,101,110,95,105,109,112,111,114,116,108,105,98,46,77,111,100,117,108,101,83,112,101,99,46,95,95,105,110,105,116,95,95,35,111,112,97,113,117,101,6,231,8,95,95,114,101,112,114,95,95,9,44,95,102,114,111,122,101,110,95,105,109,112,111,114,116,108,105,98,46,77,111,100,117,108,101,83,112,101,99,46,95,95,114,101,112,114,95,95,35,111,112,97,113,117,101,6,232,6,95,95,101,113,95,95,9,42,95,102,114,111,122,101,110,95,105,109,112,111,114,116,108,105,98,46,77,111,100,117,108,101,83,112,101,99,46,95,95,101,113,95,95,35,111,112,97,113,117,101,6,233,6,99,97,99,104,101,100,9,42,95,102,114,111,122,101,110,95,105,109,112,111,114,116,108,105,98,46,77,111,100,117,108,101,83,112,101,99,46,99,97,99,104,101,100,35,111,112,97,113,117,101,6,234,6,112,97,114,101,110,116,9,42,95,102,114,111,122,101,110,95,105,109,112,111,114,116,108,105,98,46,77,111,100,117,108,101,83,112,101,99,46,112,97,114,101,110,116,35,111,112,97,113,117,101,6,235,12,104,97,115,95,108,111,99,97,116,105,111,110,9,48,95,102,114,111,122,101,110,95,105,109,112,111,114,116,108,105,98,46,77,111,100,117,108,101,83,112,101,99,46,104,97,115,95,108,111,99,97,116,105,111,110,35,111,112,97,113,117,101,6,236,21,95,95,115,116,97,116,105,99,95,97,116,116,114,105,98,117,116,101,115,95,95,4,0,0,23,6,238,8,95,95,100,105,99,116,95,95,4,0,0,24,6,240,11,95,95,119,101,97,107,114,101,102,95,95,4,0,0,25,6,241,8,95,95,104,97,115,104,95,95,0]⟩ 0,.bool true,.bool true,vS "" 242] 1,#[]⟩ (.node (hO P 34) (.node (hO P 66) .nil .nil) .nil) (.node (hO P 50) (.node (hO P 82) .nil .nil) .nil)) (.node ⟨.ref 22,some 20,.plain,#[]⟩ (.node (hO P 42) (.node (hO P 74) .nil .nil) .nil) (.node (hO P 58) (.node (hO P 90) .nil .nil) .nil))) (.node ⟨.type "type",none,.cls (ClassData.mk (ofString "BuiltinImporter") [.type "object"] [.ref 14,.type "object"] 13 (ofString "BuiltinImporter") true [] [] false none false),#[]⟩ (.node ⟨.type "type",none,.cls (ClassData.mk (ofString "ModuleSpec") [.type "object"] [.ref 22,.type "object"] 21 (ofString "ModuleSpec") true [] [] false none false),#[]⟩ (.node (hO P 38) (.node (hO P 70) .nil .nil) .nil) (.node (hO P 54) (.node ⟨.type "list",none,.seq #[.int 14 377,.int 14 378,.int 4 379,.int 1 380,.int 1 381,.int 9 382,.int 0 383,.int 64 384,.int 0 385,.int 1342177280 386,.int 0 387,.int 0 388,.int 0 389,.int 0 390,.int 0 391,.int 17 392,.int 0 393,.int 13 394,.int 11 395,.int 9 396,.int 0 397,.int 64 398,.int 0 399,.int 1342177280 400,.int 0 401,.int 0 402,.int 0 403,.int 0 404,.int 0 405,.int 17 406,.int 1 407,.int 1 408],#[]⟩ .nil .nil) .nil)) (.node ⟨.type "code",none,.fields #[vS "<module>" 277,vS "<module>" 278,vS "/claim/cut.py" 279,.int 1 0,.int 0 0,.int 0 0,.int 0 0,.int 0 0,.ref 28,.bool false,.int 276 0,.ref 29,.none,.none,.none,.none,.int 280 0,.int 1 0,vS "/claim/cut.py" 281],#[]⟩ (.node (hO P 46) (.node (hO P 78) .nil .nil) .nil) (.node (hO P 62) .nil .nil)))))
noncomputable def S1 (P:Params):SharedT:=⟨bt1 P,91,{},#[],{},414,(start (opening hp)).1.os⟩
noncomputable def S2 (P:Params):SharedT:=⟨((((((bt1 P).set 3 fun u_=>⟨.type "dict",none,.dict #[dE P "__name__" 165 (vS "re" 412),dE P "__doc__" 166 .none,dE P "__package__" 167 .none,dE P "__loader__" 168 (.builtin "__main__.__loader__#opaque"),dE P "__spec__" 169 .none,dE P "__annotations__" 170 (.ref 6),dE P "__builtins__" 171 (.ref 4),dE P "__file__" 173 (vS "/claim/cut.py" 172),dE P "__cached__" 174 .none,dE P "_sre" 275 (.ref 12),dE P "_wall" 288 (.ref 38),dE P "S_IFMT" 297 (.ref 45),dE P "S_IFDIR" 299 (.int 16384 298),dE P "S_IFCHR" 301 (.int 8192 300),dE P "S_IFBLK" 303 (.int 24576 302),dE P "S_IFREG" 305 (.int 32768 304),dE P "S_IFIFO" 307 (.int 4096 306),dE P "S_IFLNK" 309 (.int 40960 308),dE P "S_IFSOCK" 311 (.int 49152 310),dE P "S_ISUID" 313 (.int 2048 312),dE P "S_ISGID" 315 (.int 1024 314),dE P "S_ISVTX" 317 (.int 512 316),dE P "S_IRUSR" 319 (.int 256 318),dE P "S_IWUSR" 321 (.int 128 320),dE P "S_IXUSR" 323 (.int 64 322),dE P "S_IRGRP" 325 (.int 32 324),dE P "S_IWGRP" 327 (.int 16 326),dE P "S_IXGRP" 329 (.int 8 328),dE P "S_IROTH" 331 (.int 4 330),dE P "S_IWOTH" 333 (.int 2 332),dE P "S_IXOTH" 335 (.int 1 334),dE P "_filemode_table" 361 (.ref 78),dE P "filemode" 373 (.ref 85),dE P "_twin_re_1" 411 (.ref 90),dE P "_special_chars_map" 559 (.ref 92)] 35,#[]⟩).ins 91 ⟨.type "bytes_iterator",none,.fields #[.none,.int 24 0],#[]⟩).ins 92 ⟨.type "dict",none,.dict #[DictEntry.mk 40 (.int 40 415) (vS "\\(" 419),DictEntry.mk 41 (.int 41 421) (vS "\\)" 425),DictEntry.mk 91 (.int 91 427) (vS "\\[" 431),DictEntry.mk 93 (.int 93 433) (vS "\\]" 437),DictEntry.mk 123 (.int 123 439) (vS "\\{" 443),DictEntry.mk 125 (.int 125 445) (vS "\\}" 449),DictEntry.mk 63 (.int 63 451) (vS "\\?" 455),DictEntry.mk 42 (.int 42 457) (vS "\\*" 461),DictEntry.mk 43 (.int 43 463) (vS "\\+" 467),DictEntry.mk 45 (.int 45 469) (vS "\\-" 473),DictEntry.mk 124 (.int 124 475) (vS "\\|" 479),DictEntry.mk 94 (.int 94 481) (vS "\\^" 485),DictEntry.mk 36 (.int 36 487) (vS "\\$" 491),DictEntry.mk 92 (.int 92 493) (vS "\\\\" 497),DictEntry.mk 46 (.int 46 499) (vS "\\." 503),DictEntry.mk 38 (.int 38 505) (vS "\\&" 509),DictEntry.mk 126 (.int 126 511) (vS "\\~" 515),DictEntry.mk 35 (.int 35 517) (vS "\\#" 521),DictEntry.mk 32 (.int 32 523) (vS "\\ " 527),DictEntry.mk 9 (.int 9 529) (vS "\\\t" 533),DictEntry.mk 10 (.int 10 535) (vS "\\\n" 539),DictEntry.mk 13 (.int 13 541) (vS "\\\x0d" 545),DictEntry.mk 11 (.int 11 547) (vS "\\\x0b" 551),DictEntry.mk 12 (.int 12 553) (vS "\\\x0c" 557)] 24,#[]⟩).ins 93 ⟨.type "dict",none,.dict #[] 2,#[]⟩).ins 94 (tO #[])).ins 95 ⟨.type "StopIteration",none,.fields #[.ref 94,.none,.none,.none,.bool false,.none],#[]⟩,96,{},#[],{},560,(start (opening hp)).1.os⟩
theorem said:OpenLaw.wellSaid PySem.Challenge.rw_in0180_01=true:=by kernel_rfl
noncomputable def cI6 (p:Program) (w:World) (n₀:Nat) (ann:Option Value) (n:Nat):SharedT→Thread→Option (SharedT × Thread) :=
 Nat.rec (fun s t=>some (s,t)) (fun u_ ih s t=>bif through t then none else bif stepOk n₀ ann t then (stepT (denote treeTable) p w s t).bind fun q=>ih q.1 q.2 else none) n
theorem cG3 {p:Program} {w:World} {n₀:Nat} {ann:Option Value} (n:Nat):∀ {s r:SharedT} {t u:Thread},cI6 p w n₀ ann n s t=some (r,u)→topGo treeTable p w n₀ ann n s.abs t=some (r.abs,u):=by
 induction n with
 | zero=>intro _ _ _ _ h;cases h;rfl
 | succ n ih =>
  intro s r t u h;replace h:(bif through t then none else bif stepOk n₀ ann t then (stepT (denote treeTable) p w s t).bind fun q=>cI6 p w n₀ ann n q.1 q.2 else none)=some (r,u):=h;unfold topGo
  revert h
  cases through t with
  | true=>intro h;cases h
  | false =>
   cases stepOk n₀ ann t with
   | false=>intro h;cases h
   | true =>
    intro h;(refine aA1 h ?_;intro q hs h)
    refine rwg (stepT_spec hs) ?_;exact ih h
theorem cX2 {w:World} {a s r:SharedT} (h1:aQ1 (opening hp) w 5026 startT (start (opening hp)).2=some a) (h2:bD5 (ofString "_sre") a=some s) (e4:(s.abs.heap.isNs mainGlobals && s.gens.size==0)=true)
  (e6:topRun treeTable hp w s.n (s.abs.heap.nsMap mainGlobals "__annotations__") 5026 s.abs (topStub hp)=some r.abs) (e5:(staticsOk bW8 s.abs.heap r.abs.heap && namesBound hp r.abs.heap && gensDone r.abs && laidKept s.abs.heap r.abs.heap)=true) :
  openEnds treeTable hp w 5026=some r.abs:=by
 have e1:=bO7 _ h1;have e2:=bY0 h2;have e3:fenceModules? hp a.abs=some s.abs:=by
  unfold fenceModules?;rw [bE0,noNp];show ((fenceModule? _ _).bind _).bind _=_
  rw [e2];rfl
 unfold openEnds fencedOpening;rw [cC9] at e1;rw [e1];show (fenceModules? hp a.abs).bind _=_
 rw [e3];show topFrom _ _ _ _ _=_
 unfold topFrom;have e7:s.abs.heap.objs.size=s.n:=absHeap_size ..;rw [show (s.abs.heap.isNs mainGlobals && s.abs.gens.size==0)=true from e4,e7];dsimp only
 rw [e6];show (match staticsOk (importedModules hp.main.body) _ _ && _ && _ && _ with | true=>_ | false=>_)=_
 rw [bE0,e5]
noncomputable def hB:List Stmt:=behindTheImports hp
noncomputable def hE:Env:={scope:=hp.main.scope,locals:=3,globals:=3,cells:=[],code:=.ref 30,frame:=some 31}
noncomputable abbrev hC:Code:=.body hB hE
noncomputable abbrev hA:Option Value:=some (.ref 6)
noncomputable abbrev hF:List Frame:=[topFrame default]
noncomputable def ptA:Pos:=⟨46,0,46,8⟩
noncomputable def ptB:Pos:=⟨47,0,47,18⟩
noncomputable abbrev wf (w:World) (b c:Bool):World:=(w.withFollow "comprehension-iter-twice" b).withFollow "special-get-raises" c
noncomputable def topQ (w:World):Option ((Bool × Nat × Option Value) × Thread × (Flow × Code) × Flow × SharedT × Code × Pos) :=
 (aQ1 (opening hp) w 5026 startT (start (opening hp)).2).bind fun a=>(bD5 (ofString "_sre") a).bind fun s=>(cI6 hp w 28 hA 12 s (topStub hp)).bind fun q1 =>
  (segRunT treeTable hp w 28 hA 1 50 q1.1 (blockOf hB hE hC default hF)).bind fun q2=>(segRunT treeTable hp w 28 hA 1 600 q2.2.1 (piecesOf (hB.take 26) hE hC q2.2.2.2 hF)).map fun q3 =>
   ((s.abs.heap.isNs mainGlobals && s.gens.size==0,s.n,s.abs.heap.nsMap mainGlobals "__annotations__"),q1.2,(q2.1,q2.2.2.1),q3)
set_option tactic.hygienic true in
theorem q_is (w:World):topQ w=some ((true,28,hA),⟨denote treeTable hC,hC,default,hF⟩,(.next,hC),.next,S1 w.params,hC,ptA):=by kernel_rfl
set_option tactic.hygienic true in
theorem w00 (w:World):segRunT treeTable hp (wf w false false) 28 hA 1 1400 (S1 (wf w false false).params) (pieceOf (nth hB 26) hE hC ptA hF)=some (.next,S2 (wf w false false).params,hC,ptB):=by kernel_rfl
set_option tactic.hygienic true in
theorem w01 (w:World):segRunT treeTable hp (wf w false true) 28 hA 1 1400 (S1 (wf w false true).params) (pieceOf (nth hB 26) hE hC ptA hF)=some (.next,S2 (wf w false true).params,hC,ptB):=by kernel_rfl
set_option tactic.hygienic true in
theorem w10 (w:World):segRunT treeTable hp (wf w true false) 28 hA 1 1400 (S1 (wf w true false).params) (pieceOf (nth hB 26) hE hC ptA hF)=some (.next,S2 (wf w true false).params,hC,ptB):=by kernel_rfl
set_option tactic.hygienic true in
theorem w11 (w:World):segRunT treeTable hp (wf w true true) 28 hA 1 1400 (S1 (wf w true true).params) (pieceOf (nth hB 26) hE hC ptA hF)=some (.next,S2 (wf w true true).params,hC,ptB):=by kernel_rfl
set_option tactic.hygienic true in
theorem wW (w:World):∀ b c:Bool,segRunT treeTable hp (wf w b c) 28 hA 1 1400 (S1 (wf w b c).params) (pieceOf (nth hB 26) hE hC ptA hF)=some (.next,S2 (wf w b c).params,hC,ptB)
 | false,false=>w00 w
 | false,true=>w01 w
 | true,false=>w10 w
 | true,true=>w11 w
set_option tactic.hygienic true in
theorem wE (w:World):segRunT treeTable hp w 28 hA 1 1400 (S1 w.params) (pieceOf (nth hB 26) hE hC ptA hF)=some (.next,S2 w.params,hC,ptB):=by
 have e:=wW w (w.params.followText "comprehension-iter-twice") (w.params.followText "special-get-raises");unfold wf at e;rw [World.withFollow_self] at e;rwa [World.withFollow_self] at e
noncomputable def finT (w:World):Option SharedT :=
 (bE1 hp w 28 hA 900 (S2 w.params) (restOf (hB.drop 27) hE hC ptB hF)).bind fun r=>(aQ1 (opening hp) w 5026 startT (start (opening hp)).2).bind fun a=>(bD5 (ofString "_sre") a).bind fun s =>
  bif staticsOk bW8 s.abs.heap r.abs.heap && namesBound hp r.abs.heap && gensDone r.abs && laidKept s.abs.heap r.abs.heap then some r else none
theorem f_some (w:World):(finT w).isSome=true:=by kernel_rfl
theorem f_is (w:World):(bE1 hp w 28 hA 900 (S2 w.params) (restOf (hB.drop 27) hE hC ptB hF)).map seenT=some (openGood hq bT6,Hook.val hH w):=by kernel_rfl
theorem hB_is:hB=hB.take 26++nth hB 26::hB.drop 27:=by kernel_rfl
theorem dC0:LeftO hp hq bT6 hXt (Hook.obs hH) (Hook.val hH) 5026:=fun w=>by
 (refine aB9 (f_is w) ?_;intro r h3 h2)
 obtain ⟨r0,h1⟩:=isSome_iff_exists.mp (f_some w);(refine aA1 h1 ?_;intro r' h3' h4)
 obtain rfl:=Option.some.inj (h3.symm.trans h3');(refine aA1 h4 ?_;intro a ha h5)
 (refine aA1 h5 ?_;intro s hs h6)
 have hq1:=q_is w;(refine aA1 hq1 ?_;intro a' ha' g1)
 obtain rfl:=Option.some.inj (ha.symm.trans ha');(refine aA1 g1 ?_;intro s' hs' g2)
 obtain rfl:=Option.some.inj (hs.symm.trans hs');(refine aA1 g2 ?_;intro q1 j1 g3)
 (refine aA1 g3 ?_;intro q2 j2 g4)
 (refine aB9 g4 ?_;intro q3 j3 g5)
 obtain ⟨s1,t1⟩:=q1;obtain ⟨fl2,s2,c2,p2⟩:=q2;obtain ⟨fl3,s3,c3,p3⟩:=q3;simp only [Prod.mk.injEq] at g5
 obtain ⟨⟨c1,c2',c3'⟩,rfl,⟨rfl,rfl⟩,rfl,rfl,rfl,rfl⟩:=g5;have e5:(staticsOk bW8 s.abs.heap r.abs.heap && namesBound hp r.abs.heap && gensDone r.abs && laidKept s.abs.heap r.abs.heap)=true:=by
  revert h6
  cases (staticsOk bW8 s.abs.heap r.abs.heap && namesBound hp r.abs.heap && gensDone r.abs && laidKept s.abs.heap r.abs.heap) with
  | false=>intro h;cases h
  | true=>intro _;rfl
 have k3:=bY2 _ h3;have k2:=piece_cons (segRun_of (wE w)) k3;have k1:=piece_app (segRun_of j3) k2;rw [← hB_is] at k1;have k0:=piece_block (segRun_of j2) k1;have kk:=go_top (cG3 _ j1) k0;have kf:=topRun_mono (5026 - 2962) _ _ _ _ kk;rw [cX2 ha hs c1 (by rw [c2',c3'];exact kf) e5,bE0];exact congrArg some h2
noncomputable abbrev hr:OpenRow:=PySem.Challenge.rw_in0180_01.row
noncomputable def hd1:DefRec × List (Str × Expr):=(defOf hq hr.name).getD (⟨(fnD (stM 42)).1,(fnD (stM 42)).2.1,(fnD (stM 42)).2.2.1,(fnD (stM 42)).2.2.2,⟨0,0,0,0⟩⟩,[])
theorem hd1_is:defOf hq hr.name=some (hd1.1,hd1.2):=by kernel_rfl
theorem hd1_p:hr.prog.theDef hr.name=some (hd1.1.params,hd1.1.body,hd1.1.scope):=by kernel_rfl
theorem hd1_k:kwWritten? hd1.1.params.kwonlyargs hd1.1.params.kw_defaults=some hd1.2:=by kernel_rfl
theorem hd1_n:hd1.1.name=ofString "law":=by kernel_rfl
theorem cN3:(chainsOk hq && opensWell hr.prog && (frees hr.toRowW && hr.within.isEmpty))=true:=by decide +kernel
theorem cW1:hr.prog.bare:=⟨rfl,rfl,rfl,rfl,rfl,by decide +kernel⟩
theorem cW2:hr.toRowW.promised:=⟨[WData.list []],by decide +kernel,by decide +kernel⟩
theorem hd (walk:WalkO hq bT6 (XL hq hvs) hH.says hr.toRowW hd1.1 hd1.2 fun f vs=>PySem.call f vs):PySem.Challenge.rw_in0180_01.Holds :=
 holds_law said fun sd=>W.holds_open dC0 hH.of hH.keeps (fun s e=>xl_of s (Bool.and_eq_true_iff.mp e).1) XL.keeps hd1_is hd1_p hd1_k (fun s e=>recFacts_of (Bool.and_eq_true_iff.mp e).2) rfl sd cN3 cW1 cW2 walk
set_option tactic.hygienic true in
theorem cC8 (hlaw:∀ P,cW P):PySem.Challenge.rw_in0180_01.Holds:=Mine.hd (by
 intro w s₀ s₁ mg mb G Y fa o pm cd doc dV kV ho hd hcd hD hmg hg args vals as hpre hlay hrd hwl hlo;have KX:=km_in_of Y;have KT:=km_tabs_of Y;refine Ground.open G ?_;intro T B D TE TW;have hfa:mg (ofString "law")=some (.ref 202):=mg_of KX T.g (by kernel_rfl);obtain rfl:fa=202:=by
  have e:mg (ofString "law")=some (.ref fa):=hd1_n▸hmg;rw [hfa] at e;exact (Value.ref.inj (Option.some.inj e)).symm
 clear D TE TW B hd hcd hD hmg ho
 wrow_args hpre hlay hrd hwl hlo
 rename_i ns _ _ _ _ _ _ _ l vs _ hL _ _ _ hI _ hlen _;have hlen:ns.length≤63:=by (clear hg hfa;lia)
 refine wpAny_mono (cZ6 (hlaw w.params) KX KT T hL hI hlen hg) (fun v s' h=>?_) fun u_ u_ h=>h;(refine bT7 h ?_;clear h;intro eo0 h1 h2 h3;subst eo0)
 refine ⟨.inl ⟨.bool true,.bool true,[],rfl,fun u_=>rfl,?_,?_,?_⟩,h1,h2,h3⟩
 ·exact ReadsW.bool true
 ·exact postW_of (by wrow_shape) (by wtm_val) (by str_meet;first | done | w_fin)
 ·exact fun u_=>⟨nodup_nil,fun u_ h=>nomatch h⟩)
set_option tactic.hygienic true in
theorem law_ex (P:Params):cW P:=by
 intro ns hn;refine (?_:∃ _,_);refine (aA0 (some [ofString "modes",ofString "text",ofString "due"]) (?_) (?_))
 ·intro env h;have h:env.scope=bH2 P:=h;cases env
  dsimp only at h
  subst h
  kernel_rfl
 have hsl:=bO4 ns;have hsc:(List.map AV.int ns).length≤sizeLine:=by rw [length_map,sizeLine_eq];(clear hsl;lia)
 refine aC7 ?_;refine aH7 ?_;refine aA5 ?_;refine And.intro (by exact hsc) ?_;rw [hsl];refine (?_:aB4 _ _);with_reducible (rw [aI0])
 refine aM4 (by decide) (by decide) ?_;refine aH ?_;refine (?_:∃ _,_);refine (aA0 (some [ofString "rows",ofString "listing"]) (?_) (?_))
 ·intro env h;have h:env.scope=bH2 P:=h;cases env
  dsimp only at h
  subst h
  kernel_rfl
 refine aC9 ?_;refine And.intro (by exact aN5 rfl) ?_;refine (?_:∃ _,_);refine bF0 (fun i=>((aC6 ns).take i).map fun b=>.str (aE6 b)) rfl ?_ ?_ ?_
 ·exact rfl
 ·intro i c T hT hc;have hc:((aC6 ns).map AV.int)[i]?=some c:=hc;(refine aA3 (aK8 hc) ?_;intro b eo0 hb;clear hc;clear hc;subst eo0)
  refine aA5 ?_;refine bW0 ?_;exact hT _ (by rw [hb,map_append];rfl)
 rw [show (aC6 ns).take (Sq.len _)=aC6 ns from rfl];refine And.intro (by exact aN5 rfl) ?_;refine (?_:∃ _,_);refine bF0 (fun i=>((aC6 ns).take i).map fun b=>.str (Txt.join (ofString "") (fmL b))) rfl ?_ ?_ ?_
 ·exact rfl
 ·intro i c T hT hc;have hc:((aC6 ns).map AV.int)[i]?=some c:=hc;(refine aA3 (aK8 hc) ?_;intro b eo0 hb;clear hc;clear hc;subst eo0)
  refine aA5 ?_;refine bD7 ?_;exact hT _ (by rw [hb,map_append];rfl)
 rw [show (aC6 ns).take (Sq.len _)=aC6 ns from rfl];refine And.intro (by exact hsc) ?_;refine aZ0 ?_;refine aZ0 ?_;refine aZ0 ?_;refine aZ0 ?_;refine aH7 ?_;rw [hsl];conv=>whnf
 have hsd:(List.map AV.int (List.take 4 ns)).length + [AV.int 13858,AV.int 2183,AV.int 0,AV.int 1,AV.int 3593,AV.int 6,AV.int 258,AV.int 2].length≤sizeLine:=by
  rw [length_map,length_take,sizeLine_eq];refine (?_:min 4 ns.length + 8≤_);(clear hn hsl hsc;lia)
 refine aM4 hsd (by rw [List.length_append];exact hsd) ?_;refine (bM6 (LaI ns) (.mk rfl .obj ⟨rfl,fun i b xs h=>by cases h⟩ rfl) (?_) (?_) (?_))
 ·rintro i σ2 ⟨_,_,_⟩;rfl
 ·rintro i σ2 c ⟨hv,hd,hb,ht⟩ hc;refine aY8 (aC2 _ _ _) ?_;intro X hX;rename_i d bs wd t;have hc:((xsF ns).map AV.int)[i]?=some c:=by rw [xsF,map_append];exact hc
  (refine aA3 (aK8 hc) ?_;intro x eo0 hx;clear hc;clear hc;subst eo0)
  have h5:=Int.fmod_nonneg_of_pos x (show (0:Int) < 5 by decide);have h5':=Int.fmod_lt_of_pos x (show (0:Int) < 5 by decide);have hget:=cE9 h5 h5';have h5b:-((([AV.str (ofString "not"),.str (ofString "and"),.str (ofString "or"),.str (ofString "="),.str (ofString "=")].length:Nat)):Int)≤x.fmod 5∧x.fmod 5 < (([AV.str (ofString "not"),.str (ofString "and"),.str (ofString "or"),.str (ofString "="),.str (ofString "=")].length:Nat):Int)∧[AV.str (ofString "not"),.str (ofString "and"),.str (ofString "or"),.str (ofString "="),.str (ofString "=")].length≤16777216:=⟨Int.le_trans (by decide) h5,h5',by decide⟩;refine (aA0 (none) (fun env h=>?_) (?_))
  ·have h:env.scope=bH2 P:=h;cases env
   dsimp only at h
   subst h
   kernel_rfl
  refine have kE:∀ d,DueIs wd 4 d bs→∀ (tu ao:AO) (w:Str),w=ofString "="→aD3 (aC0 (aF2 ns) ((xsF ns).take i)).1.length x=ofString "="→(?T:AV→AO→AO→Str→Prop) d tu ao w:=?pE;?main
  case main =>
   rcases hd.or.symm with ⟨a,hda,hne,hfz⟩ | ⟨hd0,hb0⟩
   ·rw [hda] at hd ⊢;have hla:∀ l o,aB (gFn P 4 202 (bH2 P) [(ofString "words",0),(ofString "items",1)] [.ints ns]) ⟨l,o,wd⟩ (.fz a)=some (bs.map .fz):=fun l o=>by
     refine (?_:(wd.fz a).bind AO.list?=_);rw [hfz];rfl
    have hla2:∀ l o,aB (gB [.ints ns] (aF8 P).tab (aF8 P).W) ⟨l,o,wd⟩ (.fz a)=some (bs.map .fz):=hla;have hni:=cN8 hne;have hie:(bs.map AV.fz).isEmpty=false:=by clear hd hb kE hfz hla hla2 hni;clear hd;cases bs with | nil=>exact absurd rfl hne | cons b r=>rfl
    have hl2:(bs.map AV.fz).length≤16777216:=by rw [length_map];exact le_trans (bH5 hb) (by decide)
    have hln:((bs.map AV.fz).length:Int)=(aC0 (aF2 ns) ((xsF ns).take i)).1.length:=by rw [length_map,hb.1]
    have hn0:(aC0 (aF2 ns) ((xsF ns).take i)).1.length≠0:=by rw [← hb.1];exact fun e=>hne (List.length_eq_zero_iff.mp e)
    refine aC9 ?_;refine aA5 ?_;refine And.intro (by exact ⟨by decide,PyProof.noPylong_small (by decide)⟩) ?_;refine bL3 12 rfl ?_;refine aZ0 ?_;refine aH7 ?_;refine aM4 (by decide) (by exact h5b) ?_;refine aC hget ?_;refine aA8 (fun hb5000=>?_) (fun hb5000=>?_)
    rotate_left
    ·refine aC9 ?_;refine aA8 (fun hb5001=>?_) (fun hb5001=>?_)
     rotate_left
     ·refine aC7 ?_;refine And.intro (by exact aN5 rfl) ?_;refine (?_:∃ _,_);generalize AO.tup [AV.obj (12 + 12),AV.str (aI5 x)]=tu;generalize hw:aI5 x=w;rw [hw] at hb5000 hb5001;generalize AO.list [AV.str (ofString "and"),AV.str (ofString "or")]=ao;generalize AV.fz a=d at hd;have hw0:=bQ6 (by rw [hw];exact hb5000) (by rw [hw];exact hb5001);exact kE d hd tu ao w (hw.symm.trans hw0) (cK4 hw0)
     ·refine aA5 ?_;refine aC (hla2 _ _) ?_;refine And.intro (by exact hl2) ?_;refine aA8 (fun hb5002=>?_) (fun hb5002=>?_)
      rotate_left
      ·refine aC7 ?_;refine And.intro (by exact aN5 rfl) ?_;refine (?_:∃ _,_);have hw:=bW1 hb5001 (by replace hb5002:=(hln ..)▸hb5002;exact Nat.not_lt.mp fun h=>of_decide_eq_false hb5002 (Int.ofNat_lt.mpr h));have hne:(aI5 x==ofString "=")=false:=two_ne hb5001;refine (?_:∃ _,_);refine bF0 (fun i=>(((aC6 ns).take i).map fun b=>aI7 (aE6 b) (aE1 x)).map .bool) rfl ?_ ?_ ?_
       ·exact rfl
       ·intro j c T hT hc;have hc:((aC6 ns).map fun b=>AV.str (aE6 b))[j]?=some c:=hc;(refine aA3 (aK8 hc) ?_;intro b eo0 hb;clear hc;clear hc;subst eo0)
        refine aC9 ?_;refine aS0 (its:=aE1 x) (bN b) (by rw [length_map,aE1,length_map]) (by rw [aE1,length_map];exact le_trans (aG7 _) (by decide)) rfl (bG4 (pre:=laO ns _ []) rfl rfl) ?_;exact hT _ (by rw [hb,map_append,map_append];rfl)
       rw [show ((aC6 ns).take (Sq.len _)).map (fun b=>aI7 (aE6 b) (aE1 x))=bS7 ns x from rfl];refine aY1 (fs:=bS7 ns x) (fd:=bS7 ns x) 29 rfl hd hb (cW6 ns i) (bH5 hb) hw hne rfl ?_;refine fun bs0 ys xs0 hF hb0=>?_;refine aC9 ?_;refine aC3 hne ?_;refine aM7 (aV x) ?_;refine And.intro (by exact cI1 ht (aV x)) ?_;apply hX;refine (?_:again 12 _ _);refine aE4 laK 29 [30] rfl rfl rfl (aD2 _) (fun u_=>rfl) (fun u_=>rfl) (fun u_=>bC1 (m:=17) rfl (.cons aK1 .nil)) ?_
       intro a1 h1;refine aE4 laK 12 [] rfl rfl rfl (aO5 _ _) (fun u_=>rfl) (fun u_=>rfl) (fun u_=>bC1 (m:=0) rfl .nil) ?_;intro a2 h2;exact .here (LaI.next hx hv hw hF hb0 h1 h2 (by rw [ht,bN3 hne]))
      ·refine aC7 ?_;refine And.intro (by exact aN5 rfl) ?_;refine (?_:∃ _,_);exact kE _ hd _ _ _ rfl (cH4 hb5000 hb5001 (by replace hb5002:=(hln ..)▸hb5002;exact Int.ofNat_lt.mp (of_decide_eq_true hb5002)))
    ·refine aH ?_;refine aC (hla2 _ _) ?_;refine aJ3 hni ?_;refine aC3 hie ?_;refine aC9 ?_;refine aA8 (fun hb5003=>by exact (cZ9 hb5000 hb5003).elim) (fun hb5003=>?_);refine aC7 ?_;refine And.intro (by exact aN5 rfl) ?_;refine (?_:∃ _,_);have hw0:aI5 x=ofString "not":=eq_of_beq hb5000;have hw:=(cI2 hw0 hn0).trans hw0.symm;have hne:(aI5 x==ofString "=")=false:=by rw [hw0];decide +kernel
     refine (?_:∃ _,_);refine bF0 (fun i=>(((aC6 ns).take i).map fun b=>aI7 (aE6 b) (aE1 x)).map .bool) rfl ?_ ?_ ?_
     ·exact rfl
     ·intro j c T hT hc;have hc:((aC6 ns).map fun b=>AV.str (aE6 b))[j]?=some c:=hc;(refine aA3 (aK8 hc) ?_;intro b eo0 hb;clear hc;clear hc;subst eo0)
      refine aC9 ?_;refine aS0 (its:=aE1 x) (bN b) (by rw [length_map,aE1,length_map]) (by rw [aE1,length_map];exact le_trans (aG7 _) (by decide)) rfl (bG4 (pre:=laO ns _ []) rfl rfl) ?_;exact hT _ (by rw [hb,map_append,map_append];rfl)
     rw [show ((aC6 ns).take (Sq.len _)).map (fun b=>aI7 (aE6 b) (aE1 x))=bS7 ns x from rfl];refine aY1 (fs:=bS7 ns x) (fd:=bS7 ns x) 30 rfl hd hb (cW6 ns i) (bH5 hb) hw hne rfl ?_;refine fun bs0 ys xs0 hF hb0=>?_;refine aC9 ?_;refine aC3 hne ?_;refine aM7 (aV x) ?_;refine And.intro (by exact cI1 ht (aV x)) ?_;apply hX;refine (?_:again 12 _ _);refine aE4 laK 30 [31] rfl rfl rfl (aD2 _) (fun u_=>rfl) (fun u_=>rfl) (fun u_=>bC1 (m:=18) rfl (.cons aK1 .nil)) ?_
     intro a1 h1;refine aE4 laK 12 [] rfl rfl rfl (aO5 _ _) (fun u_=>rfl) (fun u_=>rfl) (fun u_=>bC1 (m:=0) rfl .nil) ?_;intro a2 h2;exact .here (LaI.next hx hv hw hF hb0 h1 h2 (by rw [ht,bN3 hne]))
   ·have hw:aD3 (aC0 (aF2 ns) ((xsF ns).take i)).1.length x=ofString "=":=by rw [← hb.1,hb0];exact bA1
    rw [hd0] at hd ⊢;refine aC9 ?_;refine aA5 ?_;refine And.intro (by exact ⟨by decide,PyProof.noPylong_small (by decide)⟩) ?_;refine bL3 12 rfl ?_;refine aZ0 ?_;refine aH7 ?_;refine aM4 (by decide) (by exact h5b) ?_;refine aC hget ?_;refine aA8 (fun hb700=>?_) (fun hb700=>?_)
    ·refine aH ?_;refine aC7 ?_;refine And.intro (by exact aN5 rfl) ?_;refine (?_:∃ _,_);exact kE _ hd _ _ _ rfl hw
    ·refine aC9 ?_;refine aA8 (fun hb701=>?_) (fun hb701=>?_)
     ·refine aA5 ?_;refine And.intro (by decide) ?_;refine aC7 ?_;refine And.intro (by exact aN5 rfl) ?_;refine (?_:∃ _,_);exact kE _ hd _ _ _ rfl hw
     ·refine aC7 ?_;refine And.intro (by exact aN5 rfl) ?_;refine (?_:∃ _,_);exact kE _ hd _ _ _ (bQ6 hb700 hb701) hw
  case pE =>
   intro d hd tu ao w hw0 hw;subst hw0;refine (?_:∃ _,_);refine bF0 (fun i=>(((aC6 ns).take i).map fun b=>aI7 (aE6 b) (aE1 x)).map .bool) rfl ?_ ?_ ?_
   ·exact rfl
   ·intro j c T hT hc;have hc:((aC6 ns).map fun b=>AV.str (aE6 b))[j]?=some c:=hc;(refine aA3 (aK8 hc) ?_;intro b eo0 hb;clear hc;clear hc;subst eo0)
    refine aC9 ?_;refine aS0 (its:=aE1 x) (bN b) (by rw [length_map,aE1,length_map]) (by rw [aE1,length_map];exact le_trans (aG7 _) (by decide)) rfl (bG4 (pre:=laO ns _ []) rfl rfl) ?_;exact hT _ (by rw [hb,map_append,map_append];rfl)
   rw [show ((aC6 ns).take (Sq.len _)).map (fun b=>aI7 (aE6 b) (aE1 x))=bS7 ns x from rfl];refine bB5 (fs:=bS7 ns x) 29 rfl hd rfl (by decide +kernel) (by decide +kernel) (le_trans (bH5 hb) (by decide)) rfl ?_;refine aC9 ?_;refine aA5 ?_;refine And.intro (by exact it_dl x) ?_;refine (?_:∃ _,_);refine bF0 (fun i=>(((aC1 (x.fdiv 5)).take i).map aA7).map .str) rfl ?_ ?_ ?_
   ·exact rfl
   ·intro j c T hT hc;(refine aI8 (aZ8 (f:=fun k=>AV.obj (12 + k)) hc) ?_;intro k eo0 hkm hb;clear hc;subst eo0)
    refine (?_:aB4 _ _);refine aC (bV1 (pre:=laO ns _ []) rfl rfl (aI4 _ k hkm)) ?_;refine And.intro (cL1 _ _ _) ?_;exact hT _ (by rw [hb,map_append,map_append];rfl)
   rw [show (aC1 (x.fdiv 5)).take (Sq.len _)=aC1 (x.fdiv 5) by (refine List.take_of_length_le ?_;refine (?_:_≤(List.map _ _).length);rw [length_map];exact le_refl _)];have has:=aT0 ((aC1 (x.fdiv 5)).map aA7);refine aC has ?_;refine aM4 (by exact it_jl x) (by exact le_trans (it_wl x) (by rw [sizeLine_eq];decide)) ?_;refine aM7 (cS x) ?_;refine And.intro (by exact cI1 ht (cS x)) ?_;apply hX;refine (?_:again 12 _ _);refine aE4 laK 28 [29] rfl rfl rfl (aD2 _) (fun u_=>rfl) (fun u_=>rfl) (fun u_=>bC1 (m:=16) rfl (.cons aK1 .nil)) ?_
   intro a1 h1;refine aE4 laK 12 [] rfl rfl rfl (aO5 _ _) (fun u_=>rfl) (fun u_=>rfl) (fun u_=>bC1 (m:=0) rfl .nil) ?_;intro a2 h2;exact .here (LaI.next hx hv hw bP3 hb h1 h2 (by rw [ht,cA5,← aL0]))
 ·rintro σ2 hI;have hxl:(Sq.l (List.map AV.int (List.take 4 ns)++[AV.int 13858,AV.int 2183,AV.int 0,AV.int 1,AV.int 3593,AV.int 6,AV.int 258,AV.int 2])).len=(xsF ns).length:=by
   refine (?_:(List.map AV.int (List.take 4 ns)++_).length=_);rw [List.length_append,length_map,xsF,List.length_append];rfl
  replace hI:=(hxl ..)▸hI;clear hxl;obtain ⟨hv,hd,hb,ht⟩:=hI;rename_i d bs wd t;have hne:bs≠[]:=fun e=>(aV8 (aF2 ns) ((xsF ns).take (xsF ns).length)).2.1 (by rw [take_length];exact xs_ne ns) (List.length_eq_zero_iff.mp (by rw [← hb.1,e];rfl));(refine aA3 (hd.ne hne) ?_;intro a eo0 ha;clear hd;subst eo0)
  rw [take_length] at hb ht;obtain ⟨hWl,htx,hWat,hWtok,htm⟩:=fin_ok ns;rw [← ht] at htx;generalize hW:(aC0 (aF2 ns) (xsF ns)).2=W at *;have hW12:W.length≤12:=hWl▸xs_12 ns;obtain ⟨t0,ht0⟩:∃ t,(aG0 W)[0]?=some t:=⟨_,getElem?_eq_getElem (by unfold aG0;rw [List.length_append];exact lt_of_lt_of_le Nat.zero_lt_one (Nat.le_add_left _ _))⟩;have htok:aA9 (signs t)=(t0,bH3 W 1):=ht▸hWtok 0 t0 ht0;have htk0:((aG0 W).take (0 + 1)).map AV.str=[.str t0]:=by
   (refine aH5 ht0 ?_;intro h1 h2)
   rw [take_succ_eq_append_getElem h1,h2];rfl
  refine (?_:∃ _,_);refine (aA0 (some [ofString "lexer",ofString "answers"]) (?_) (?_))
  ·intro env h;have h:env.scope=bH2 P:=h;cases env
   dsimp only at h
   subst h
   kernel_rfl
  refine aC9 ?_;refine aA5 ?_;refine aA5 ?_;refine aX2 htx fun sa=>?_;refine bR0 fun la=>?_;refine aH ?_;refine aA5 ?_;refine (?_:aB4 _ _);refine aC (bS2 (w:=⟨bH la (signs t),wd.fz⟩) rfl) ?_;refine aH ?_;refine aO3 htok ?_;refine (?_:∃ _,_);refine ⟨LwI ns a la t0 t W wd.fz,W.length,.mk (j:=0) (zero_le _) rfl rfl (fun u_ u_ h=>h) .obj ⟨rfl,fun i b xs h=>by cases h⟩ (.obj htk0),?_⟩;rintro κ σ1 ⟨hj,hκ,hv,hf,hd,hb2,hw⟩;refine aY8 (aC2 _ _ _) ?_;intro X hX;subst hκ;rename_i j d bs2 wv wd2;obtain ⟨v,f⟩:=wd2;have hv:v=_:=hv;subst hv;obtain ⟨tj,htj⟩:∃ t,(aG0 W)[j]?=some t:=⟨_,getElem?_eq_getElem (by unfold aG0;rw [List.length_append,length_map];exact Nat.lt_succ_of_le hj)⟩;have hlast:=cB0 htj;have hbd:=cY2 htj (by omega);have hwl:=hw.list ns la;have hn1:=hw.no.1;have hn2:=hw.no.2;by_cases hjl:j=W.length
  ·obtain rfl:tj=ofString "":=by
    rw [hjl,aG0,getElem?_append_right (by rw [length_map];exact le_refl _),length_map,sub_self] at htj;exact (Option.some.inj htj).symm
   (replace hb2:=(hjl ..)▸hb2;replace hb2:=(hWl ..)▸hb2;replace hb2:=(take_length ..)▸hb2)
   (refine aA3 (hd.ne (fun e=>hne (List.length_eq_zero_iff.mp (by rw [hb.1,← hb2.1,e];rfl)))) ?_;intro a' eo0 ha';clear hd;subst eo0)
   refine aJ3 hn1 ?_;refine aC (hwl _ _ _ _) ?_;refine And.intro (by exact hbd) ?_;refine aC hlast ?_;refine aH7 ?_;refine And.intro (by exact aN5 rfl) ?_;refine (?_:∃ _,_);refine cv_wd (fun i=>(endsT.take i).map AV.str) rfl ?_ ?_ ?_
   ·exact fun u_=>rfl
   ·intro i c v T hT hc;(refine cF6 (dB4 i c hc) ?_;intro s tk rs eo0 hs htk he;clear hc;subst eo0)
    refine aA5 ?_;refine aA5 ?_;refine aX2 hs fun sb=>?_;refine bR0 fun lb=>?_;refine (?_:aB4 _ _);refine aC (bS2 (w:=⟨bH lb (signs s),f⟩) rfl) ?_;refine aH ?_;refine aO3 htk ?_;exact hT _ _ (by rw [he,map_append];rfl)
   ·intro v;refine aC9 ?_;refine aC9 ?_;refine aH7 ?_;refine (?_:∃ _,_);refine (aM1 (_) (bU1 rfl (cB2 (G:=gFn P 4 202 (bH2 P) [(ofString "words",0),(ofString "items",1)] [.ints ns]) (D:=(aC0 (aF2 ns) (xsF ns)).1) (bs:=bs2) (by refine (?_:(f a').bind AO.list?=_);rw [show f a'=_ from ha'];rfl) (fun i b xs h1 h2=>by refine (?_:(f b).bind AO.list?=_);rw [show f b=_ from hb2.2 i b xs h1 h2];rfl) hb2.1) (bI rfl)) (
     bU1 rfl (cB2 (D:=(aC0 (aF2 ns) (xsF ns)).1) (bs:=bs) (by refine (?_:(f a).bind AO.list?=_);rw [show f a=_ from hf _ _ ha];rfl) (fun i b xs h1 h2=>by refine (?_:(f b).bind AO.list?=_);rw [show f b=_ from hf _ _ (hb.2 i b xs h1 h2)];rfl) hb.1) (bI (ss:=endsT) rfl)) (?_))
    exact rfl
  ·have hjlt:j < W.length:=Nat.lt_of_le_of_ne hj hjl;obtain ⟨x,hxj⟩:∃ x,(xsF ns)[j]?=some x:=⟨_,getElem?_eq_getElem (hWl▸hjlt)⟩;have hx:(xsF ns).take (j + 1)=(xsF ns).take j++[x]:=by
    (refine aH5 hxj ?_;intro h1 h2)
    rw [take_succ_eq_append_getElem h1,h2]
   obtain ⟨t2,ht2⟩:∃ t,(aG0 W)[j + 1]?=some t:=⟨_,getElem?_eq_getElem (by unfold aG0;rw [List.length_append,length_map];exact Nat.succ_lt_succ hjlt)⟩;have htok2:=hWtok (j + 1) t2 ht2;have hsz:=cW4 (t:=t2) hW12 hj;have hl12:=bH5 (wd:=⟨bH la (bH3 W (j + 1)),f⟩) hb2;by_cases hne:(aD3 (aC0 (aF2 ns) ((xsF ns).take j)).1.length x==ofString "=")=true
   ·have hw0:=eq_of_beq hne;have hte:=(bR2 (hWat j x hxj) htj hw0).trans cA5;(refine aH8 (cV8 x) ?_;intro hs0 hne1 htl)
    have hs1:=cG (aB1 ((aC1 (x.fdiv 5)).map aA7));have hq:=eq_not (aB1 ((aC1 (x.fdiv 5)).map aA7));rw [← hte] at hs0 hne1 htl hs1 hq;refine aJ3 hn1 ?_;refine aC (hwl _ _ _ _) ?_;refine And.intro (by exact hbd) ?_;refine aC hlast ?_;refine aA4 hne1 ?_;refine aJ3 hn1 ?_;refine aC (hwl _ _ _ _) ?_;refine And.intro (by exact hbd) ?_;refine aC hlast ?_;refine And.intro (by with_reducible exact htl) ?_;refine aA4 hs0 ?_;refine And.intro (by exact aN5 rfl) ?_;refine (?_:∃ _,_);refine bF0 (fun i=>(((aC6 ns).take i).map fun b=>aI7 (aE6 b) (aE1 x)).map .bool) rfl ?_ ?_ ?_
    ·exact rfl
    ·intro i c T hT hc;have hc:((aC6 ns).map fun b=>AV.str (Txt.join (ofString "") (fmL b)))[i]?=some c:=hc;(refine aI8 (aZ8 hc) ?_;intro b eo0 hbm hb;clear hc;clear hc;subst eo0)
     refine aC9 ?_;refine aJ3 hn1 ?_;refine aC (hwl _ _ _ _) ?_;refine And.intro (by exact hbd) ?_;refine aC hlast ?_;refine And.intro (by with_reducible exact htl) ?_;rw [hs1];refine bW3 (cV6 b) (le_trans (aG7 (x.fdiv 5)) (by decide)) (aI4 (x.fdiv 5)) ?_;exact hT _ (by rw [hb,map_append,map_append];exact congrArg (fun v=>(((aC6 ns).take i).map fun b=>aI7 (aE6 b) (aE1 x)).map AV.bool++[AV.bool v]) (htm b hbm x))
    rw [show ((aC6 ns).take (Sq.len _)).map (fun b=>aI7 (aE6 b) (aE1 x))=bS7 ns x from rfl];refine aC7 ?_;refine aJ3 hn1 ?_;refine aC (hwl _ _ _ _) ?_;refine And.intro (by exact hbd) ?_;refine aC hlast ?_;refine bB5 (fs:=bS7 ns x) 16 rfl hd rfl hq.1 hq.2 (le_trans hl12 (by decide)) rfl ?_;refine aA5 ?_;refine (?_:aB4 _ _);refine aC (bS2 (w:=⟨bH la (bH3 W (j + 1)),f⟩) rfl) ?_;refine aH ?_;refine aO3 htok2 ?_;refine aJ3 hn2 ?_;refine aJ3 hn1 ?_;refine aC (hwl _ _ _ _) ?_;refine And.intro (by with_reducible exact hsz) ?_;apply hX;refine (?_:again 15 _ _);refine aE4 lwK 15 [16,18] rfl rfl rfl (aD2 _) (fun u_=>rfl) (fun u_=>rfl) (fun u_=>bA3 (m:=0) rfl (.cons aK1 (.cons (aD (aK2 _ _)) .nil))) ?_
    intro a1 h1;refine aE4 lwK 15 [16] rfl rfl rfl (aO5 _ _) (fun u_=>rfl) (fun u_=>rfl) (fun u_=>bA3 (m:=0) rfl (.cons (aD (aK2 _ _)) .nil)) ?_;intro a2 h2;refine aE4 lwK 15 [] rfl rfl rfl (aK2 _ _) (fun u_=>rfl) (fun u_=>rfl) (fun u_=>bA3 (m:=0) rfl .nil) ?_;intro aw h3;exact .here (LwI.next hjlt rfl hf hx hw0 bP3 hb2 h1 h2 h3 (bJ3 ht2))
   ·have hne:=Bool.eq_false_iff.mpr hne;generalize hw0:aD3 (aC0 (aF2 ns) ((xsF ns).take j)).1.length x=w at hne;obtain rfl:=(bR2 (hWat j x hxj) htj hw0).trans (bN3 hne);(refine aH8 (cH0 hw0 hne) ?_;intro hs0 hne1 htl)
    refine aJ3 hn1 ?_;refine aC (hwl _ _ _ _) ?_;refine And.intro (by exact hbd) ?_;refine aC hlast ?_;refine aA4 hne1 ?_;refine aJ3 hn1 ?_;refine aC (hwl _ _ _ _) ?_;refine And.intro (by exact hbd) ?_;refine aC hlast ?_;refine And.intro (by with_reducible exact htl) ?_;refine aC3 hs0 ?_;refine aH ?_;refine aC7 ?_;refine aJ3 hn1 ?_;refine aC (hwl _ _ _ _) ?_;refine And.intro (by exact hbd) ?_;refine aC hlast ?_;refine aY1 (fs:=[]) (fd:=bS7 ns x) 16 rfl hd hb2 (cW6 ns j) hl12 hw0 hne rfl ?_;refine fun bs0 ys xs0 hF hb0=>?_;refine aA5 ?_;refine (?_:aB4 _ _);refine aC (bS2 (w:=⟨bH la (bH3 W (j + 1)),f⟩) rfl) ?_;refine aH ?_;refine aO3 htok2 ?_;refine aJ3 hn2 ?_;refine aJ3 hn1 ?_;refine aC (hwl _ _ _ _) ?_;refine And.intro (by with_reducible exact hsz) ?_;apply hX;refine (?_:again 15 _ _);refine aE4 lwK 16 [17,19] rfl rfl rfl (aD2 _) (fun u_=>rfl) (fun u_=>rfl) (fun u_=>bA3 (m:=1) rfl (.cons aK1 (.cons (aD (aK2 _ _)) .nil))) ?_
    intro a1 h1;refine aE4 lwK 15 [16] rfl rfl rfl (aO5 _ _) (fun u_=>rfl) (fun u_=>rfl) (fun u_=>bA3 (m:=0) rfl (.cons (aD (aK2 _ _)) .nil)) ?_;intro a2 h2;refine aE4 lwK 15 [] rfl rfl rfl (aK2 _ _) (fun u_=>rfl) (fun u_=>rfl) (fun u_=>bA3 (m:=0) rfl .nil) ?_;intro aw h3;exact .here (LwI.next hjlt rfl hf hx hw0 hF hb0 h1 h2 h3 (bJ3 ht2))
theorem law_all:PySem.Challenge.rw_in0180_01.Holds:=cC8 law_ex

end Mine
theorem PySem.Challenge.cw_in0180_01_holds : PySem.Challenge.rw_in0180_01.Holds :=
  Mine.law_all
