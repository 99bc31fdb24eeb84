/-
  Texts joined: De K Shelf W Dn O P Q R S Nd.
-/
import Derived.Test.YtackodbeohaidaaGreatDoorZq02
import Derived.KernelRfl
import Derived.Laws.IdiomStrings
import Derived.Shelf.Strings.OnBuilder
import Derived.Shelf.Strings.TrimSpace
import Derived.Shelf.Sort.Plain
import Derived.Shelf.Strings.Prefix
import Derived.Shelf.Slices.In.SortNone
import Derived.Shelf.Slices.In.SortNone2
import Derived.Test.YtackodbeohaidaaGreatDoorProg
import Derived.Deep.RegionHeld3
namespace Go.Cf
open Go.RowKit Go.Conc Go.Proofs
def decS (n:Nat):List UInt8:=if n≤9 then [UInt8.ofNat (48 + n)] else decS (n / 10) ++ [UInt8.ofNat (48 + n % 10)]
termination_by n
decreasing_by omega
theorem byte48 (k:Nat) (h:k≤9):(UInt8.ofNat (48 + k)).toNat=48 + k:=by rw [UInt8.toNat_ofNat'];omega
theorem decS_num (n:Nat):numOf (decS n)=n:=by
 induction n using Nat.strongRecOn with
 | _ n ih =>
  rw [decS]
  split
  ·next h=>simp [numOf];omega
  ·next h=>rw [numOf_snoc,ih _ (by omega),byte48 _ (by omega)];omega
theorem decS_dig (n:Nat):∀ c ∈ decS n,48≤c.toNat∧c.toNat≤57:=by
 induction n using Nat.strongRecOn with
 | _ n ih =>
  rw [decS]
  split
  ·next h=>intro c hc;rw [List.mem_singleton.1 hc,byte48 n h];omega
  ·next h =>
   intro c hc;rcases List.mem_append.1 hc with hc | hc
   ·exact ih _ (by omega) c hc
   ·rw [List.mem_singleton.1 hc,byte48 _ (by omega)];omega
theorem decS_len (n k:Nat) (hn:n < 10 ^ (k + 1)):0 < (decS n).length∧(decS n).length≤k + 1:=by
 induction k generalizing n with
 | zero=>rw [decS,if_pos (by simp at hn;omega)];simp
 | succ k ih =>
  rw [decS]
  split
  ·simp
  ·have:=ih (n / 10) (by rw [Nat.pow_succ] at hn;omega);simp;omega
def decB (n:Nat):ByteArray:=⟨(decS n).toArray⟩
theorem decB_num (n:Nat):numOf (decB n).data.toList=n:=decS_num n
theorem decB_dig (n:Nat):isDigits (decB n):=by
 intro i hi;have hl:i < (decS n).length:=by simpa [decB,ByteArray.size] using hi
 have h:=decS_dig n (decS n)[i] (List.getElem_mem hl);have e:byteAt (decB n) i=((decS n)[i]).toNat:=by
  show ((decS n).toArray.toList.getD i 0).toNat=_
  rw [List.getD_eq_getElem?_getD,List.getElem?_eq_getElem (by simpa using hl)];rfl
 rw [e];exact h
theorem conv_digit (W:World) (k:Nat) (hk:k≤9):(convert 27 9 (.slice (some ⟨W.heap.size,0,none⟩) 1 1)).run Tryz.prog (W.alloc (.cells #[.int .u8 (48 + (k:Int))] 5))=.ok (.string ⟨#[UInt8.ofNat (48 + k)]⟩) (W.alloc (.cells #[.int .u8 (48 + (k:Int))] 5)):=by
 refine run_convert_bytes_back _ 27 9 5 ⟨W.heap.size,0,none⟩ 1 [UInt8.ofNat (48 + k)] Tryz.underlying27 Tryz.underlying5 Tryz.underlying9 (fun j hj=>?_);obtain rfl:j=0:=by simpa using hj
 have:=blk_cell (heap_alloc_new W (.cells #[.int .u8 (48 + (k:Int))] 5)) 0;simp only [List.getElem_cons_zero,byte48 k hk];exact this
abbrev skipT (n:Nat):Tag:=some (true,n)
abbrev plainT (n:Nat):Tag:=some (false,n)
section
variable {L:LX}
theorem top_sp (ok:L.Ok) (hs:isSp L.chr=true):Goes1 60 L L.nxt (skipT 60):=by
 intro base S0 w0 w b h0;go_enter Tryz.func60,Tryz.ntmps60;go_wp2_with fail;refine (next_c h0 ok).mono ?_;rintro e w1 ⟨rfl,h1⟩;go_wp2_with fail;refine (isSp_c _ (chr_lt ok) _).mono ?_;rintro e w' ⟨rfl,rfl⟩;go_wp2_with fail;refine (skipV_c h1 60).mono ?_;rintro e w2 ⟨rfl,hv⟩;go_wp2_with fail;go_ret;exact ⟨_,rfl,hv⟩
theorem top_brace (ok:L.Ok) (hst:L.stack.length≤1000000) (hs:isSp L.chr=false) (hc:L.chr=123):Goes1 60 L (L.nxt.psh 60) (skipT 89):=by
 have e_123_125:(((L.chr:Nat):Int) == 123)=true:=beq_iff_eq.2 (by omega);clear hc;intro base S0 w0 w b h0;go_enter Tryz.func60,Tryz.ntmps60;go_wp2_with fail;refine (next_c h0 ok).mono ?_;rintro e w1 ⟨rfl,h1⟩;go_wp2_with fail;refine (isSp_c _ (chr_lt ok) _).mono ?_;rintro e w' ⟨rfl,rfl⟩;go_wp2_with fail;refine (push_c h1 60 (by rw [nxt_stack];exact hst)).mono ?_;rintro e w2 ⟨rfl,h2⟩;go_wp2_with fail;refine (skipV_c h2 89).mono ?_;rintro e w3 ⟨rfl,hv⟩;go_wp2_with fail;go_ret;exact ⟨_,rfl,hv⟩
theorem top_hash (ok:L.Ok) (hst:L.stack.length≤1000000) (hs:isSp L.chr=false) (hc:L.chr=35):Goes1 60 L (L.nxt.psh 60) (plainT 90):=by
 have e_123_125:(((L.chr:Nat):Int) == 123)=false:=bqf (by omega);have e_35_125:(((L.chr:Nat):Int) == 35)=true:=beq_iff_eq.2 (by omega);clear hc;intro base S0 w0 w b h0;go_enter Tryz.func60,Tryz.ntmps60;go_wp2_with fail;refine (next_c h0 ok).mono ?_;rintro e w1 ⟨rfl,h1⟩;go_wp2_with fail;refine (isSp_c _ (chr_lt ok) _).mono ?_;rintro e w' ⟨rfl,rfl⟩;go_wp2_with fail;refine (push_c h1 60 (by rw [nxt_stack];exact hst)).mono ?_;rintro e w2 ⟨rfl,h2⟩;go_wp2_with fail;go_ret;exact ⟨_,rfl,h2.plain _⟩
theorem top_slash (ok:L.Ok) (hst:L.stack.length≤1000000) (hs:isSp L.chr=false) (hc:L.chr=47) (hd:L.nxt.chr=47):Goes1 60 L (L.nxt.nxt.psh 60) (plainT 90):=by
 have e_123_125:(((L.chr:Nat):Int) == 123)=false:=bqf (by omega);have e_35_125:(((L.chr:Nat):Int) == 35)=false:=bqf (by omega);have e_47_125:(((L.chr:Nat):Int) == 47)=true:=beq_iff_eq.2 (by omega);have e_47_829:(((L.nxt.chr:Nat):Int) == 47)=true:=beq_iff_eq.2 (by omega);clear hc hd;intro base S0 w0 w b h0;go_enter Tryz.func60,Tryz.ntmps60;go_wp2_with fail;refine (next_c h0 ok).mono ?_;rintro e w1 ⟨rfl,h1⟩;go_wp2_with fail;refine (isSp_c _ (chr_lt ok) _).mono ?_;rintro e w' ⟨rfl,rfl⟩;go_wp2_with fail;refine (next_c h1 ok.nxt).mono ?_;rintro e w2 ⟨rfl,h2⟩;go_wp2_with fail;refine (push_c h2 60 (by rw [nxt_stack,nxt_stack];exact hst)).mono ?_;rintro e w3 ⟨rfl,h3⟩;go_wp2_with fail;go_ret;exact ⟨_,rfl,h3.plain _⟩
theorem top_key (ok:L.Ok) (hst:L.stack.length≤1000000) (hs:isSp L.chr=false) (h1:L.chr ≠ 123) (h2:L.chr ≠ 35) (h3:L.chr ≠ 47) (h4:L.chr ≠ 0):Goes1 60 L (L.pk.psh 94) (plainT 95):=by
 have e_123_125:(((L.chr:Nat):Int) == 123)=false:=bqf (by omega);have e_35_125:(((L.chr:Nat):Int) == 35)=false:=bqf (by omega);have e_47_125:(((L.chr:Nat):Int) == 47)=false:=bqf (by omega);have e_0_125:(((L.chr:Nat):Int) == 0)=false:=bqf (by omega);clear h1 h2 h3 h4;intro base S0 w0 w b h0;go_enter Tryz.func60,Tryz.ntmps60;go_wp2_with fail;refine (next_c h0 ok).mono ?_;rintro e w1 ⟨rfl,h1⟩;go_wp2_with fail;refine (isSp_c _ (chr_lt ok) _).mono ?_;rintro e w' ⟨rfl,rfl⟩;go_wp2_with fail;refine (back_c h1 ok.nxt (nxt_width _)).mono ?_;rintro e w2 ⟨rfl,h2⟩;rw [nxt_back] at h2;go_wp2_with fail;refine (push_c h2 94 (by rw [pk_stack];exact hst)).mono ?_;rintro e w3 ⟨rfl,h3⟩;go_wp2_with fail;go_ret;exact ⟨_,rfl,h3.plain _⟩
theorem tve_hash (ok:L.Ok) (hst:L.stack.length≤1000000) (hc:L.chr=35):Goes1 94 L (L.nxt.psh 60) (plainT 90):=by
 have e_35_125:(((L.chr:Nat):Int) == 35)=true:=beq_iff_eq.2 (by omega);clear hc;intro base S0 w0 w b h0;go_enter Tryz.func94,Tryz.ntmps94;go_wp2_with fail;refine (next_c h0 ok).mono ?_;rintro e w1 ⟨rfl,h1⟩;go_wp2_with fail;refine (push_c h1 60 (by rw [nxt_stack];exact hst)).mono ?_;rintro e w2 ⟨rfl,h2⟩;go_wp2_with fail;go_ret;exact ⟨_,rfl,h2.plain _⟩
theorem tve_slash (ok:L.Ok) (hst:L.stack.length≤1000000) (hc:L.chr=47) (hd:L.nxt.chr=47):Goes1 94 L (L.nxt.nxt.psh 60) (plainT 90):=by
 have e_35_125:(((L.chr:Nat):Int) == 35)=false:=bqf (by omega);have e_47_125:(((L.chr:Nat):Int) == 47)=true:=beq_iff_eq.2 (by omega);have e_47_829:(((L.nxt.chr:Nat):Int) == 47)=true:=beq_iff_eq.2 (by omega);clear hc hd;intro base S0 w0 w b h0;go_enter Tryz.func94,Tryz.ntmps94;go_wp2_with fail;refine (next_c h0 ok).mono ?_;rintro e w1 ⟨rfl,h1⟩;go_wp2_with fail;refine (next_c h1 ok.nxt).mono ?_;rintro e w2 ⟨rfl,h2⟩;go_wp2_with fail;refine (push_c h2 60 (by rw [nxt_stack,nxt_stack];exact hst)).mono ?_;rintro e w3 ⟨rfl,h3⟩;go_wp2_with fail;go_ret;exact ⟨_,rfl,h3.plain _⟩
theorem tve_ws (ok:L.Ok) (h1:L.chr ≠ 35) (h2:L.chr ≠ 47) (hw:isWS L.chr=true):Goes1 94 L L.nxt (plainT 94):=by
 have e_35_125:(((L.chr:Nat):Int) == 35)=false:=bqf (by omega);have e_47_125:(((L.chr:Nat):Int) == 47)=false:=bqf (by omega);clear h1 h2;intro base S0 w0 w b h0;go_enter Tryz.func94,Tryz.ntmps94;go_wp2_with fail;refine (next_c h0 ok).mono ?_;rintro e w1 ⟨rfl,h1⟩;go_wp2_with fail;refine (isWS_c _ (chr_lt ok) _).mono ?_;rintro e w' ⟨rfl,rfl⟩;go_wp2_with fail;go_ret;exact ⟨_,rfl,h1.plain _⟩
end
end Go.Cf
namespace Go.Proofs
open Go.Shelf
def Tryz.lays159_ren:Go.Shelf.Ren:=⟨fun | 159=>69 | 165=>100 | 166=>101 | 167=>102 | 169=>103 | 230=>104 | 204=>105 | 240=>143 | 241=>144 | 197=>124 | 118=>145 | 168=>146 | 270=>147 | 262=>148 | 276=>165 | 277=>166 | 260=>162 | 242=>167 | 313=>168 | 278=>176 | 274=>177 | 275=>178 | n=>n,fun | 9=>9 | 4=>4 | 3=>3 | 5=>5 | 72=>153 | 0=>0 | 76=>155 | 75=>63 | 107=>159 | 70=>151 | 20=>20 | 37=>27 | 127=>201 | 21=>21 | 105=>182 | 164=>217 | 162=>222 | 203=>185 | 119=>161 | 46=>103 | 139=>228 | 138=>227 | 51=>139 | 160=>229 | 208=>237 | 206=>235 | 80=>148 | n=>n,fun | 13=>4 | 3=>5 | 4=>6 | n=>n⟩
theorem Tryz.lays159:Go.Proofs.Lays.n159 Tryz.prog Tryz.lays159_ren:={
 mixed:=by kernel_rfl
 f118:=Tryz.func145.trans (congrArg some (by kernel_rfl))
 f159:=Tryz.func69.trans (congrArg some (by kernel_rfl))
 f165:=Tryz.func100.trans (congrArg some (by kernel_rfl))
 f166:=Tryz.func101.trans (congrArg some (by kernel_rfl))
 f167:=Tryz.func102.trans (congrArg some (by kernel_rfl))
 f168:=Tryz.func146.trans (congrArg some (by kernel_rfl))
 f169:=Tryz.func103.trans (congrArg some (by kernel_rfl))
 f197:=Tryz.func124.trans (congrArg some (by kernel_rfl))
 f204:=Tryz.func105.trans (congrArg some (by kernel_rfl))
 f230:=Tryz.func104.trans (congrArg some (by kernel_rfl))
 f240:=Tryz.func143.trans (congrArg some (by kernel_rfl))
 f241:=Tryz.func144.trans (congrArg some (by kernel_rfl))
 f242:=Tryz.func167.trans (congrArg some (by kernel_rfl))
 f260:=Tryz.func162.trans (congrArg some (by kernel_rfl))
 f262:=Tryz.func148.trans (congrArg some (by kernel_rfl))
 f270:=Tryz.func147.trans (congrArg some (by kernel_rfl))
 f274:=Tryz.func177.trans (congrArg some (by kernel_rfl))
 f275:=Tryz.func178.trans (congrArg some (by kernel_rfl))
 f276:=Tryz.func165.trans (congrArg some (by kernel_rfl))
 f277:=Tryz.func166.trans (congrArg some (by kernel_rfl))
 f278:=Tryz.func176.trans (congrArg some (by kernel_rfl))
 f313:=Tryz.func168.trans (congrArg some (by kernel_rfl))
 t0:=Tryz.underlying0
 a0:=Tryz.isAgg0
 z0:=Tryz.sizeOf0
 v0:=Tryz.zeroValue0
 t3:=Tryz.underlying3
 a3:=Tryz.isAgg3
 z3:=Tryz.sizeOf3
 v3:=Tryz.zeroValue3
 t4:=Tryz.underlying4
 a4:=Tryz.isAgg4
 z4:=Tryz.sizeOf4
 v4:=Tryz.zeroValue4
 t5:=Tryz.underlying5
 a5:=Tryz.isAgg5
 z5:=Tryz.sizeOf5
 v5:=Tryz.zeroValue5
 t9:=Tryz.underlying9
 a9:=Tryz.isAgg9
 z9:=Tryz.sizeOf9
 v9:=Tryz.zeroValue9
 t20:=Tryz.underlying20
 a20:=Tryz.isAgg20
 z20:=Tryz.sizeOf20
 v20:=Tryz.zeroValue20
 t21:=Tryz.underlying21
 a21:=Tryz.isAgg21
 z21:=Tryz.sizeOf21
 v21:=Tryz.zeroValue21
 t37:=Tryz.underlying27
 a37:=Tryz.isAgg27
 z37:=Tryz.sizeOf27
 v37:=Tryz.zeroValue27
 t46:=Tryz.underlying103
 a46:=Tryz.isAgg103
 z46:=Tryz.sizeOf103
 v46:=Tryz.zeroValue103
 t51:=Tryz.underlying139
 a51:=Tryz.isAgg139
 z51:=Tryz.sizeOf139
 v51:=Tryz.zeroValue139
 t70:=Tryz.underlying151
 a70:=Tryz.isAgg151
 z70:=Tryz.sizeOf151
 v70:=Tryz.zeroValue151
 t72:=Tryz.underlying153
 a72:=Tryz.isAgg153
 z72:=Tryz.sizeOf153
 v72:=Tryz.zeroValue153
 t75:=Tryz.underlying63
 a75:=Tryz.isAgg63
 z75:=Tryz.sizeOf63
 v75:=Tryz.zeroValue63
 t76:=Tryz.underlying155
 a76:=Tryz.isAgg155
 z76:=Tryz.sizeOf155
 v76:=Tryz.zeroValue155
 t105:=Tryz.underlying182
 a105:=Tryz.isAgg182
 z105:=Tryz.sizeOf182
 v105:=Tryz.zeroValue182
 t107:=Tryz.underlying159
 a107:=Tryz.isAgg159
 z107:=Tryz.sizeOf159
 v107:=Tryz.zeroValue159
 t119:=Tryz.underlying161
 a119:=Tryz.isAgg161
 z119:=Tryz.sizeOf161
 t127:=Tryz.underlying201
 a127:=Tryz.isAgg201
 z127:=Tryz.sizeOf201
 v127:=Tryz.zeroValue201
 t138:=Tryz.underlying227
 a138:=Tryz.isAgg227
 z138:=Tryz.sizeOf227
 v138:=Tryz.zeroValue227
 t139:=Tryz.underlying228
 a139:=Tryz.isAgg228
 z139:=Tryz.sizeOf228
 v139:=Tryz.zeroValue228
 t160:=Tryz.underlying229
 a160:=Tryz.isAgg229
 z160:=Tryz.sizeOf229
 v160:=Tryz.zeroValue229
 t162:=Tryz.underlying222
 a162:=Tryz.isAgg222
 z162:=Tryz.sizeOf222
 v162:=Tryz.zeroValue222
 t164:=Tryz.underlying217
 a164:=Tryz.isAgg217
 z164:=Tryz.sizeOf217
 v164:=Tryz.zeroValue217
 t203:=Tryz.underlying185
 a203:=Tryz.isAgg185
 z203:=Tryz.sizeOf185
 v203:=Tryz.zeroValue185
 t206:=Tryz.underlying235
 a206:=Tryz.isAgg235
 z206:=Tryz.sizeOf235
 v206:=Tryz.zeroValue235
 t208:=Tryz.underlying237
 a208:=Tryz.isAgg237
 z208:=Tryz.sizeOf237
 v208:=Tryz.zeroValue237
 g3:=by kernel_rfl
 g4:=by kernel_rfl
 g13:=by kernel_rfl }
theorem Tryz.Builder_Extra_159:Builder.Extra Tryz.prog Tryz.lays159_ren:={
 sizeBuilder:=by kernel_rfl
 liesBuilder:=by kernel_rfl
 t5:=Tryz.underlying5
 a5:=Tryz.isAgg5
 z5:=Tryz.sizeOf5
 v5:=Tryz.zeroValue5
 infoByte:=by kernel_rfl
 cellsByte:=by kernel_rfl
 sizeByte:=by kernel_rfl
 neB5:=by decide }
open Go.RowKit in
theorem Tryz.strings_ToLower_ascii (s:ByteArray) (w:World) (hs:s.size≤140737488355328) (hascii:∀ (j:Nat) (b:UInt8),s.data.toList[j]?=some b→b.toNat < 128) :
  Calls Tryz.prog 69 #[.string s] w fun e w'=>e=.returned (.string ⟨(Lib.toLowerA s.data.toList).toArray⟩)∧Below w.heap.size w w':=Any.strings_ToLower_ascii Tryz.lays159 Tryz.Builder_Extra_159 s w hs hascii
def Tryz.lays163_ren:Go.Shelf.Ren:=⟨fun | 163=>70 | 237=>106 | 199=>86 | 238=>107 | 272=>149 | 261=>98 | 273=>150 | 197=>124 | 315=>169 | 311=>140 | 312=>141 | 271=>170 | 260=>162 | 120=>179 | n=>n,fun | 9=>9 | 37=>27 | 3=>3 | 0=>0 | 5=>5 | 4=>4 | 40=>118 | 119=>161 | 21=>21 | 51=>139 | 141=>150 | 105=>182 | 196=>191 | 193=>188 | 198=>194 | 49=>192 | 194=>189 | 201=>197 | 226=>215 | 46=>103 | 227=>216 | 139=>228 | 138=>227 | n=>n,fun | 0=>1 | 6=>2 | 3=>5 | 4=>6 | n=>n⟩
theorem Tryz.lays163:Go.Proofs.Lays.n163 Tryz.prog Tryz.lays163_ren:={
 mixed:=by kernel_rfl
 f120:=Tryz.func179.trans (congrArg some (by kernel_rfl))
 f163:=Tryz.func70.trans (congrArg some (by kernel_rfl))
 f197:=Tryz.func124.trans (congrArg some (by kernel_rfl))
 f199:=Tryz.func86.trans (congrArg some (by kernel_rfl))
 f237:=Tryz.func106.trans (congrArg some (by kernel_rfl))
 f238:=Tryz.func107.trans (congrArg some (by kernel_rfl))
 f260:=Tryz.func162.trans (congrArg some (by kernel_rfl))
 f261:=Tryz.func98.trans (congrArg some (by kernel_rfl))
 f271:=Tryz.func170.trans (congrArg some (by kernel_rfl))
 f272:=Tryz.func149.trans (congrArg some (by kernel_rfl))
 f273:=Tryz.func150.trans (congrArg some (by kernel_rfl))
 f311:=Tryz.func140.trans (congrArg some (by kernel_rfl))
 f312:=Tryz.func141.trans (congrArg some (by kernel_rfl))
 f315:=Tryz.func169.trans (congrArg some (by kernel_rfl))
 t0:=Tryz.underlying0
 a0:=Tryz.isAgg0
 z0:=Tryz.sizeOf0
 v0:=Tryz.zeroValue0
 t3:=Tryz.underlying3
 a3:=Tryz.isAgg3
 z3:=Tryz.sizeOf3
 v3:=Tryz.zeroValue3
 t4:=Tryz.underlying4
 a4:=Tryz.isAgg4
 z4:=Tryz.sizeOf4
 v4:=Tryz.zeroValue4
 t5:=Tryz.underlying5
 a5:=Tryz.isAgg5
 z5:=Tryz.sizeOf5
 v5:=Tryz.zeroValue5
 t9:=Tryz.underlying9
 a9:=Tryz.isAgg9
 z9:=Tryz.sizeOf9
 v9:=Tryz.zeroValue9
 t21:=Tryz.underlying21
 a21:=Tryz.isAgg21
 z21:=Tryz.sizeOf21
 v21:=Tryz.zeroValue21
 t37:=Tryz.underlying27
 a37:=Tryz.isAgg27
 z37:=Tryz.sizeOf27
 v37:=Tryz.zeroValue27
 t40:=Tryz.underlying118
 a40:=Tryz.isAgg118
 z40:=Tryz.sizeOf118
 v40:=Tryz.zeroValue118
 t46:=Tryz.underlying103
 a46:=Tryz.isAgg103
 z46:=Tryz.sizeOf103
 v46:=Tryz.zeroValue103
 t49:=Tryz.underlying192
 a49:=Tryz.isAgg192
 z49:=Tryz.sizeOf192
 v49:=Tryz.zeroValue192
 t51:=Tryz.underlying139
 a51:=Tryz.isAgg139
 z51:=Tryz.sizeOf139
 v51:=Tryz.zeroValue139
 t105:=Tryz.underlying182
 a105:=Tryz.isAgg182
 z105:=Tryz.sizeOf182
 v105:=Tryz.zeroValue182
 t119:=Tryz.underlying161
 a119:=Tryz.isAgg161
 z119:=Tryz.sizeOf161
 t138:=Tryz.underlying227
 a138:=Tryz.isAgg227
 z138:=Tryz.sizeOf227
 v138:=Tryz.zeroValue227
 t139:=Tryz.underlying228
 a139:=Tryz.isAgg228
 z139:=Tryz.sizeOf228
 v139:=Tryz.zeroValue228
 t141:=Tryz.underlying150
 a141:=Tryz.isAgg150
 z141:=Tryz.sizeOf150
 v141:=Tryz.zeroValue150
 t193:=Tryz.underlying188
 a193:=Tryz.isAgg188
 z193:=Tryz.sizeOf188
 v193:=Tryz.zeroValue188
 t194:=Tryz.underlying189
 a194:=Tryz.isAgg189
 z194:=Tryz.sizeOf189
 v194:=Tryz.zeroValue189
 t196:=Tryz.underlying191
 a196:=Tryz.isAgg191
 z196:=Tryz.sizeOf191
 v196:=Tryz.zeroValue191
 t198:=Tryz.underlying194
 a198:=Tryz.isAgg194
 z198:=Tryz.sizeOf194
 v198:=Tryz.zeroValue194
 t201:=Tryz.underlying197
 a201:=Tryz.isAgg197
 z201:=Tryz.sizeOf197
 v201:=Tryz.zeroValue197
 t226:=Tryz.underlying215
 a226:=Tryz.isAgg215
 z226:=Tryz.sizeOf215
 v226:=Tryz.zeroValue215
 t227:=Tryz.underlying216
 a227:=Tryz.isAgg216
 z227:=Tryz.sizeOf216
 v227:=Tryz.zeroValue216
 g0:=by kernel_rfl
 g3:=by kernel_rfl
 g4:=by kernel_rfl
 g6:=by kernel_rfl }
theorem Tryz.Space_Extra_163:Space.Extra Tryz.prog Tryz.lays163_ren:={
 gNamed:=by kernel_rfl }
open Go.RowKit in
theorem Tryz.strings_TrimSpace (s:ByteArray) (w:World) (hs:s.size≤9223372036854775807) (hascii:∀ (j:Nat) b,s.data.toList[j]?=some b→b.toNat < 128) (htab:Lib.TabIs Tryz.prog w "strings.asciiSpace" .u8 Lib.asciiSpaceTab) :
  Calls Tryz.prog 70 #[.string s] w fun e w'=>e=.returned (.string ⟨(Lib.trimSpace s.data.toList).toArray⟩)∧w'=Lib.bytesWorld w 5 s:=Any.strings_TrimSpace Tryz.lays163 Tryz.Space_Extra_163 s w hs hascii htab
def Tryz.lays192_ren:Go.Shelf.Ren:=⟨fun | 192=>40 | 190=>49 | 125=>59 | 258=>58 | 128=>83 | 129=>84 | 302=>74 | 303=>75 | 304=>76 | 305=>77 | 306=>78 | 307=>79 | 308=>80 | 309=>81 | 310=>82 | 333=>118 | 329=>119 | 330=>120 | 334=>121 | 335=>122 | 336=>123 | 344=>161 | n=>n,fun | 31=>23 | 0=>0 | 9=>9 | 3=>3 | 46=>103 | 51=>139 | 53=>141 | 4=>4 | 183=>132 | 182=>131 | 131=>136 | 5=>5 | 218=>176 | 222=>180 | 228=>211 | 229=>212 | n=>n,fun | n=>n⟩
theorem Tryz.lays192:Go.Proofs.Lays.n192 Tryz.prog Tryz.lays192_ren:={
 mixed:=by kernel_rfl
 f125:=Tryz.func59.trans (congrArg some (by kernel_rfl))
 f128:=Tryz.func83.trans (congrArg some (by kernel_rfl))
 f129:=Tryz.func84.trans (congrArg some (by kernel_rfl))
 f190:=Tryz.func49.trans (congrArg some (by kernel_rfl))
 f192:=Tryz.func40.trans (congrArg some (by kernel_rfl))
 f258:=Tryz.func58.trans (congrArg some (by kernel_rfl))
 f302:=Tryz.func74.trans (congrArg some (by kernel_rfl))
 f303:=Tryz.func75.trans (congrArg some (by kernel_rfl))
 f304:=Tryz.func76.trans (congrArg some (by kernel_rfl))
 f305:=Tryz.func77.trans (congrArg some (by kernel_rfl))
 f306:=Tryz.func78.trans (congrArg some (by kernel_rfl))
 f307:=Tryz.func79.trans (congrArg some (by kernel_rfl))
 f308:=Tryz.func80.trans (congrArg some (by kernel_rfl))
 f309:=Tryz.func81.trans (congrArg some (by kernel_rfl))
 f310:=Tryz.func82.trans (congrArg some (by kernel_rfl))
 f329:=Tryz.func119.trans (congrArg some (by kernel_rfl))
 f330:=Tryz.func120.trans (congrArg some (by kernel_rfl))
 f333:=Tryz.func118.trans (congrArg some (by kernel_rfl))
 f334:=Tryz.func121.trans (congrArg some (by kernel_rfl))
 f335:=Tryz.func122.trans (congrArg some (by kernel_rfl))
 f336:=Tryz.func123.trans (congrArg some (by kernel_rfl))
 f344:=Tryz.func161.trans (congrArg some (by kernel_rfl))
 t0:=Tryz.underlying0
 a0:=Tryz.isAgg0
 z0:=Tryz.sizeOf0
 v0:=Tryz.zeroValue0
 t3:=Tryz.underlying3
 a3:=Tryz.isAgg3
 z3:=Tryz.sizeOf3
 v3:=Tryz.zeroValue3
 t4:=Tryz.underlying4
 a4:=Tryz.isAgg4
 z4:=Tryz.sizeOf4
 v4:=Tryz.zeroValue4
 t5:=Tryz.underlying5
 a5:=Tryz.isAgg5
 z5:=Tryz.sizeOf5
 v5:=Tryz.zeroValue5
 t9:=Tryz.underlying9
 a9:=Tryz.isAgg9
 z9:=Tryz.sizeOf9
 v9:=Tryz.zeroValue9
 t31:=Tryz.underlying23
 a31:=Tryz.isAgg23
 z31:=Tryz.sizeOf23
 v31:=Tryz.zeroValue23
 t46:=Tryz.underlying103
 a46:=Tryz.isAgg103
 z46:=Tryz.sizeOf103
 v46:=Tryz.zeroValue103
 t51:=Tryz.underlying139
 a51:=Tryz.isAgg139
 z51:=Tryz.sizeOf139
 v51:=Tryz.zeroValue139
 t53:=Tryz.underlying141
 a53:=Tryz.isAgg141
 z53:=Tryz.sizeOf141
 v53:=Tryz.zeroValue141
 t131:=Tryz.underlying136
 a131:=Tryz.isAgg136
 z131:=Tryz.sizeOf136
 v131:=Tryz.zeroValue136
 t182:=Tryz.underlying131
 a182:=Tryz.isAgg131
 z182:=Tryz.sizeOf131
 v182:=Tryz.zeroValue131
 t183:=Tryz.underlying132
 a183:=Tryz.isAgg132
 z183:=Tryz.sizeOf132
 v183:=Tryz.zeroValue132
 t218:=Tryz.underlying176
 a218:=Tryz.isAgg176
 z218:=Tryz.sizeOf176
 v218:=Tryz.zeroValue176
 t222:=Tryz.underlying180
 a222:=Tryz.isAgg180
 z222:=Tryz.sizeOf180
 v222:=Tryz.zeroValue180
 t228:=Tryz.underlying211
 a228:=Tryz.isAgg211
 z228:=Tryz.sizeOf211
 v228:=Tryz.zeroValue211
 t229:=Tryz.underlying212
 a229:=Tryz.isAgg212
 z229:=Tryz.sizeOf212
 v229:=Tryz.zeroValue212 }
open Go.Sort Go.RowKit in
theorem Tryz.sort_Strings (blk off cap:Nat) (ss:List (List UInt8)) (w:World) (hH:Holds encStr w blk off ss.toArray) (hblk:blk < w.heap.size) (hsz:ss.length < 4611686018427387904) :
  Calls Tryz.prog 40 #[.slice (some ⟨blk,off,none⟩) ss.length cap] w fun e w' =>
   e=.returned (.tuple #[])∧∃ n os,w'=grow (putRow encStr (Sort.ahead w n) blk off (ss.mergeSort fun x y=>decide (x≤y)).toArray) os:=Any.sort_Strings Tryz.lays192 blk off cap ss w hH hblk hsz
def Tryz.lays99_ren:Go.Shelf.Ren:=⟨fun | 99=>117 | 206=>160 | n=>n,fun | 9=>9 | 4=>4 | 3=>3 | n=>n,fun | n=>n⟩
theorem Tryz.lays99:Go.Proofs.Lays.n99 Tryz.prog Tryz.lays99_ren:={
 mixed:=by kernel_rfl
 f99:=Tryz.func117.trans (congrArg some (by kernel_rfl))
 f206:=Tryz.func160.trans (congrArg some (by kernel_rfl))
 t3:=Tryz.underlying3
 a3:=Tryz.isAgg3
 z3:=Tryz.sizeOf3
 v3:=Tryz.zeroValue3
 t4:=Tryz.underlying4
 a4:=Tryz.isAgg4
 z4:=Tryz.sizeOf4
 v4:=Tryz.zeroValue4
 t9:=Tryz.underlying9
 a9:=Tryz.isAgg9
 z9:=Tryz.sizeOf9
 v9:=Tryz.zeroValue9 }
open Go.RowKit Go.Lib in
theorem Tryz.strings_HasPrefix (s p:ByteArray) (w:World) :
  Calls Tryz.prog 117 #[.string s,.string p] w fun e w'=>e=.returned (.bool (Lib.hasPrefix s.data.toList p.data.toList))∧w'=w:=Any.strings_HasPrefix Tryz.lays99 s p w
open Go.RowKit Go.Sort in
theorem Tryz.sort_Strings_none (p:Option Addr) (cap:Nat) (w:World) :
  Calls Tryz.prog 40 #[.slice p 0 cap] w fun e w'=>e=.returned (.tuple #[])∧w'=w:=Any.sort_Strings_none Tryz.lays192 p cap w
end Go.Proofs
namespace Go.Cf
open Go.RowKit Go.Conc Go.Proofs
section
variable {L:LX}
theorem byteAt_cut (s:ByteArray) (a b i:Nat) (h:i < (s.extract a b).size):byteAt (s.extract a b) i=byteAt s (a + i):=by
 have h2:(s.extract a b).size=min b s.size - a:=by simp
 rw [← byteAt_get (s.extract a b) i h,← byteAt_get s (a + i) (by omega),ByteArray.getElem_extract]
theorem toList_txt (L:LX) (ok:L.Ok):∀ (j:Nat) (b:UInt8),L.txt.data.toList[j]?=some b→b.toNat < 128:=by
 intro j b hj;have h1:byteAt L.txt j=b.toNat:=by unfold byteAt;rw [List.getD_eq_getElem?_getD,hj];rfl
 have hlt:j < L.txt.size:=by
  have:=(List.getElem?_eq_some_iff.1 hj).1;rwa [data_length] at this
 have h2:byteAt L.txt j=byteAt L.inp (L.start + j):=by
  exact byteAt_cut L.inp L.start L.pos j hlt
 rw [← h1,h2];refine ok.asc _ ?_;have h3:L.txt.size=min L.pos L.inp.size - L.start:=by unfold LX.txt;simp
 omega
def noKw (s:ByteArray):Prop:=(Lib.toLowerA s.data.toList == [105,110,99,108,117,100,101])=false
set_option maxRecDepth 100000 in
theorem kck_c {base:Nat} {S0:Nat→Prop} {w0 w:World} {b:Nat} (h:At base S0 w0 w b L) (ok:L.Ok) (rdy:L.Rdy) (n:Nat) (hk:noKw L.txt) :
  Calls Tryz.prog 164 #[.pointer (some ⟨b,0,none⟩),fnV n,.nilFunc] w fun e w'=>e=.returned (fnV n)∧At base S0 w0 w' b (L.emit 3 L.txt):=by
 have c0:=h.c0;have c1:=h.c1;have c2:=h.c2;have hsm:=ok.small;have hpp:=ok.pos;have hst:=rdy.start;have ha:=toList_txt L ok;have hk2:(Lib.toLowerA L.txt.data.toList == [105,110,99,108,117,100,101])=false:=hk;have hsz:L.txt.size≤140737488355328:=by unfold LX.txt;simp;omega
 obtain ⟨t,ht⟩:∃ t,t=L.txt:=⟨_,rfl⟩;have ht2:L.inp.extract L.start L.pos=t:=ht.symm;rw [← ht] at ha hk2 hsz ⊢;have HA:=Lib.hid ha;have HR:=Lib.hid rdy;have HT:=Lib.hid ht;clear ha ht hk;go_enter Tryz.func164,Tryz.ntmps164;go_wp2;refine wp_still_tail 13 mixed (by kernel_rfl) ?_;simp only [List.take_succ_cons,List.take_zero,List.drop_succ_cons,List.drop_zero]
 repeat still_step
 refine wpStill_nil ?_;go_wp2_with fail;refine (Tryz.strings_ToLower_ascii t _ hsz HA.out).mono ?_;rintro e w1 ⟨rfl,hb⟩;have h1:=At.below (h.drewN 1) hb;clear c0 c1 c2 hb;go_wp2_with fail;have he:=emit_c 3 h1 ok HR.out.parts HR.out.start HR.out.q;rw [← HT.out] at he;refine he.mono ?_;rintro e w2 ⟨rfl,h2⟩;go_wp2;go_ret;exact ⟨rfl,h2⟩
theorem top_eof (ok:L.Ok) (rdy:L.Rdy) (hc:L.chr=0) (hle:¬ L.nxt.start < L.nxt.pos):Goes1 60 L (L.nxt.emit 2 L.nxt.txt) none:=by
 have hs0:isSp L.chr=false:=by rw [hc];rfl
 have HLE:Hid (((L.nxt.start:Nat):Int) < ((L.nxt.pos:Nat):Int)→False):=fun h=>hle (by omega)
 have e_123_935:(((L.chr:Nat):Int) == 123)=false:=bqf (by omega);have e_35_935:(((L.chr:Nat):Int) == 35)=false:=bqf (by omega);have e_47_935:(((L.chr:Nat):Int) == 47)=false:=bqf (by omega);have e_0_935:(((L.chr:Nat):Int) == 0)=true:=beq_iff_eq.2 (by omega);clear hc hle;intro base S0 w0 w b h0;go_enter Tryz.func60,Tryz.ntmps60;go_wp2_with fail;refine (next_c h0 ok).mono ?_;rintro e w1 ⟨rfl,h1⟩;go_wp2_with fail;refine (isSp_c _ (chr_lt ok) _).mono ?_;rintro e w' ⟨rfl,rfl⟩;have c1:=h1.c1;have c2:=h1.c2;have hle:¬ (((L.nxt.start:Nat):Int) < ((L.nxt.pos:Nat):Int)):=HLE.out;have hle2:decide (L.nxt.start < L.nxt.pos)=false:=decide_eq_false (by omega);go_wp2_with fail;go_quiet (fail);have h1:=h1.drewN nq;go_wp2_with fail;refine (emit_c 2 h1 ok.nxt (by simpa [nxt_parts,pk_parts] using rdy.parts) (by have:=rdy.start;simp only [nxt_start,nxt_pos];split <;> omega) (by simpa [nxt_q,pk_q] using rdy.q)).mono ?_;rintro e w2 ⟨rfl,h2⟩;go_wp2_with fail;go_ret;exact ⟨_,rfl,h2.nil⟩
theorem tve_nl (ok:L.Ok) (hc:L.chr=10):Goes1 94 L L.nxt.ign (plainT 60):=by
 have e_35_935:(((L.chr:Nat):Int) == 35)=false:=bqf (by omega);have e_47_935:(((L.chr:Nat):Int) == 47)=false:=bqf (by omega);have e1:isWS L.chr=false:=by rw [hc];rfl
 have e2:isNLb L.chr=true:=by rw [hc];rfl
 clear hc;intro base S0 w0 w b h0;go_enter Tryz.func94,Tryz.ntmps94;go_wp2_with fail;refine (next_c h0 ok).mono ?_;rintro e w1 ⟨rfl,h1⟩;go_wp2_with fail;refine (isWS_c _ (chr_lt ok) _).mono ?_;rintro e w' ⟨rfl,rfl⟩;go_wp2_with fail;refine (isNLb_c _ (chr_lt ok) _).mono ?_;rintro e w' ⟨rfl,rfl⟩;go_wp2_with fail;refine (ign_c h1).mono ?_;rintro e w2 ⟨rfl,h2⟩;go_wp2_with fail;go_ret;exact ⟨_,rfl,h2.plain _⟩
theorem ks_key (ok:L.Ok) (e1:isSep L.chr=false) (e2:isSp L.chr=false) (h1:L.chr ≠ 34) (h2:L.chr ≠ 39):Goes1 95 L L.pk.ign.nxt (plainT 139):=by
 have e_34_935:(((L.chr:Nat):Int) == 34)=false:=bqf (by omega);have e_39_935:(((L.chr:Nat):Int) == 39)=false:=bqf (by omega);clear h1 h2;intro base S0 w0 w b h0;go_enter Tryz.func95,Tryz.ntmps95;go_wp2_with fail;refine (peek_c h0 ok).mono ?_;rintro e w1 ⟨rfl,h1⟩;go_wp2_with fail;refine (isSep_c _ (chr_lt ok) _).mono ?_;rintro e w' ⟨rfl,rfl⟩;go_wp2_with fail;refine (isSp_c _ (chr_lt ok) _).mono ?_;rintro e w' ⟨rfl,rfl⟩;go_wp2_with fail;refine (ign_c h1).mono ?_;rintro e w2 ⟨rfl,h2⟩;go_wp2_with fail;refine (next_c h2 ok.pk.ign).mono ?_;rintro e w3 ⟨rfl,h3⟩;go_wp2_with fail;go_ret;exact ⟨_,rfl,h3.plain _⟩
theorem key_more (ok:L.Ok) (e1:isSp L.chr=false) (e2:isSep L.chr=false) (h1:L.chr ≠ 0):Goes1 139 L L.pk.nxt (plainT 139):=by
 have e_0_935:(((L.chr:Nat):Int) == 0)=false:=bqf (by omega);clear h1;intro base S0 w0 w b h0;go_enter Tryz.func139,Tryz.ntmps139;go_wp2_with fail;refine (peek_c h0 ok).mono ?_;rintro e w1 ⟨rfl,h1⟩;go_wp2_with fail;refine (isSp_c _ (chr_lt ok) _).mono ?_;rintro e w' ⟨rfl,rfl⟩;go_wp2_with fail;refine (isSep_c _ (chr_lt ok) _).mono ?_;rintro e w' ⟨rfl,rfl⟩;go_wp2_with fail;refine (next_c h1 ok.pk).mono ?_;rintro e w2 ⟨rfl,h2⟩;go_wp2_with fail;go_ret;exact ⟨_,rfl,h2.plain _⟩
theorem key_sp (ok:L.Ok) (rdy:L.Rdy) (e1:isSp L.chr=true) (hk:noKw L.pk.txt):Goes1 139 L (L.pk.emit 3 L.pk.txt) (plainT 163):=by
 have HK:=Lib.hid hk;clear hk;intro base S0 w0 w b h0;go_enter Tryz.func139,Tryz.ntmps139;go_wp2_with fail;refine (peek_c h0 ok).mono ?_;rintro e w1 ⟨rfl,h1⟩;go_wp2_with fail;refine (isSp_c _ (chr_lt ok) _).mono ?_;rintro e w' ⟨rfl,rfl⟩;go_wp2_with fail;refine (kck_c h1 ok.pk ⟨(by simpa [nxt_parts,pk_parts] using rdy.parts),(by have:=rdy.start;simp only [pk_start,pk_pos];omega),(by simpa [nxt_q,pk_q] using rdy.q)⟩ 163 HK.out).mono ?_;rintro e w2 ⟨rfl,h2⟩;go_wp2_with fail;go_ret;exact ⟨_,rfl,h2.plain _⟩
theorem key_sep (ok:L.Ok) (rdy:L.Rdy) (e1:isSp L.chr=false) (e2:isSep L.chr=true):Goes1 139 L (L.pk.emit 3 L.pk.txt) (plainT 163):=by
 intro base S0 w0 w b h0;go_enter Tryz.func139,Tryz.ntmps139;go_wp2_with fail;refine (peek_c h0 ok).mono ?_;rintro e w1 ⟨rfl,h1⟩;go_wp2_with fail;refine (isSp_c _ (chr_lt ok) _).mono ?_;rintro e w' ⟨rfl,rfl⟩;go_wp2_with fail;refine (isSep_c _ (chr_lt ok) _).mono ?_;rintro e w' ⟨rfl,rfl⟩;go_wp2_with fail;refine (emit_c 3 h1 ok.pk (by simpa [nxt_parts,pk_parts] using rdy.parts) (by have:=rdy.start;simp only [pk_start,pk_pos];omega) (by simpa [nxt_q,pk_q] using rdy.q)).mono ?_;rintro e w2 ⟨rfl,h2⟩;go_wp2_with fail;go_ret;exact ⟨_,rfl,h2.plain _⟩
theorem ke_sp (ok:L.Ok) (e1:isSp L.chr=true):Goes1 163 L L.nxt (skipT 163):=by
 intro base S0 w0 w b h0;go_enter Tryz.func163,Tryz.ntmps163;go_wp2_with fail;refine (next_c h0 ok).mono ?_;rintro e w1 ⟨rfl,h1⟩;go_wp2_with fail;refine (isSp_c _ (chr_lt ok) _).mono ?_;rintro e w' ⟨rfl,rfl⟩;go_wp2_with fail;refine (skipV_c h1 163).mono ?_;rintro e w2 ⟨rfl,hv⟩;go_wp2_with fail;go_ret;exact ⟨_,rfl,hv⟩
theorem ke_sep (ok:L.Ok) (e1:isSp L.chr=false) (e2:isSep L.chr=true):Goes1 163 L L.nxt (skipT 174):=by
 intro base S0 w0 w b h0;go_enter Tryz.func163,Tryz.ntmps163;go_wp2_with fail;refine (next_c h0 ok).mono ?_;rintro e w1 ⟨rfl,h1⟩;go_wp2_with fail;refine (isSp_c _ (chr_lt ok) _).mono ?_;rintro e w' ⟨rfl,rfl⟩;go_wp2_with fail;refine (isSep_c _ (chr_lt ok) _).mono ?_;rintro e w' ⟨rfl,rfl⟩;go_wp2_with fail;refine (skipV_c h1 174).mono ?_;rintro e w2 ⟨rfl,hv⟩;go_wp2_with fail;go_ret;exact ⟨_,rfl,hv⟩
theorem ke_other (ok:L.Ok) (e1:isSp L.chr=false) (e2:isSep L.chr=false) (h1:L.chr ≠ 0):Goes1 163 L L.pk (plainT 174):=by
 have e_0_935:(((L.chr:Nat):Int) == 0)=false:=bqf (by omega);clear h1;intro base S0 w0 w b h0;go_enter Tryz.func163,Tryz.ntmps163;go_wp2_with fail;refine (next_c h0 ok).mono ?_;rintro e w1 ⟨rfl,h1⟩;go_wp2_with fail;refine (isSp_c _ (chr_lt ok) _).mono ?_;rintro e w' ⟨rfl,rfl⟩;go_wp2_with fail;refine (isSep_c _ (chr_lt ok) _).mono ?_;rintro e w' ⟨rfl,rfl⟩;go_wp2_with fail;refine (back_c h1 ok.nxt (nxt_width _)).mono ?_;rintro e w2 ⟨rfl,h2⟩;rw [nxt_back] at h2;go_wp2_with fail;go_ret;exact ⟨_,rfl,h2.plain _⟩
theorem val_ws (ok:L.Ok) (e1:isWS L.chr=true):Goes1 174 L L.nxt (skipT 174):=by
 intro base S0 w0 w b h0;go_enter Tryz.func174,Tryz.ntmps174;go_wp2_with fail;refine (next_c h0 ok).mono ?_;rintro e w1 ⟨rfl,h1⟩;go_wp2_with fail;refine (isWS_c _ (chr_lt ok) _).mono ?_;rintro e w' ⟨rfl,rfl⟩;go_wp2_with fail;refine (skipV_c h1 174).mono ?_;rintro e w2 ⟨rfl,hv⟩;go_wp2_with fail;go_ret;exact ⟨_,rfl,hv⟩
theorem val_dig (ok:L.Ok) (e1:isWS L.chr=false) (e2:isDig L.chr=true) (hd:48≤L.chr∧L.chr≤57):Goes1 174 L L.pk (plainT 186):=by
 have e_91_935:(((L.chr:Nat):Int) == 91)=false:=bqf (by omega);have e_123_935:(((L.chr:Nat):Int) == 123)=false:=bqf (by omega);have e_39_935:(((L.chr:Nat):Int) == 39)=false:=bqf (by omega);have e_34_935:(((L.chr:Nat):Int) == 34)=false:=bqf (by omega);have e_45_935:(((L.chr:Nat):Int) == 45)=false:=bqf (by omega);have e_40_935:(((L.chr:Nat):Int) == 40)=false:=bqf (by omega);clear hd;intro base S0 w0 w b h0;go_enter Tryz.func174,Tryz.ntmps174;go_wp2_with fail;refine (next_c h0 ok).mono ?_;rintro e w1 ⟨rfl,h1⟩;go_wp2_with fail;refine (isWS_c _ (chr_lt ok) _).mono ?_;rintro e w' ⟨rfl,rfl⟩;go_wp2_with fail;refine (isDig_c _ (chr_lt ok) _).mono ?_;rintro e w' ⟨rfl,rfl⟩;go_wp2_with fail;refine (back_c h1 ok.nxt (nxt_width _)).mono ?_;rintro e w2 ⟨rfl,h2⟩;rw [nxt_back] at h2;go_wp2_with fail;go_ret;exact ⟨_,rfl,h2.plain _⟩
theorem num_start (ok:L.Ok) (e2:isDig L.chr=true):Goes1 186 L L.nxt (plainT 199):=by
 intro base S0 w0 w b h0;go_enter Tryz.func186,Tryz.ntmps186;go_wp2_with fail;refine (next_c h0 ok).mono ?_;rintro e w1 ⟨rfl,h1⟩;go_wp2_with fail;refine (isDig_c _ (chr_lt ok) _).mono ?_;rintro e w' ⟨rfl,rfl⟩;go_wp2_with fail;go_ret;exact ⟨_,rfl,h1.plain _⟩
theorem num_dig (ok:L.Ok) (e2:isDig L.chr=true) (h1:L.chr ≠ 45):Goes1 199 L L.nxt (plainT 199):=by
 have e_45_935:(((L.chr:Nat):Int) == 45)=false:=bqf (by omega);clear h1;intro base S0 w0 w b h0;go_enter Tryz.func199,Tryz.ntmps199;go_wp2_with fail;refine (next_c h0 ok).mono ?_;rintro e w1 ⟨rfl,h1⟩;go_wp2_with fail;refine (isDig_c _ (chr_lt ok) _).mono ?_;rintro e w' ⟨rfl,rfl⟩;go_wp2_with fail;go_ret;exact ⟨_,rfl,h1.plain _⟩
theorem num_suf (ok:L.Ok) (e2:isDig L.chr=false) (e3:isSuf L.chr=true) (h1:L.chr ≠ 45) (h2:L.chr ≠ 46):Goes1 199 L L.nxt (plainT 212):=by
 have e_45_935:(((L.chr:Nat):Int) == 45)=false:=bqf (by omega);have e_46_935:(((L.chr:Nat):Int) == 46)=false:=bqf (by omega);clear h1 h2;intro base S0 w0 w b h0;go_enter Tryz.func199,Tryz.ntmps199;go_wp2_with fail;refine (next_c h0 ok).mono ?_;rintro e w1 ⟨rfl,h1⟩;go_wp2_with fail;refine (isDig_c _ (chr_lt ok) _).mono ?_;rintro e w' ⟨rfl,rfl⟩;go_wp2_with fail;refine (isSuf_c _ (chr_lt ok) _).mono ?_;rintro e w' ⟨rfl,rfl⟩;go_wp2_with fail;go_ret;exact ⟨_,rfl,h1.plain _⟩
theorem num_nl (ok:L.Ok) (rdy:L.Rdy) (st:List Nat) (n:Nat) (hst:L.stack=st ++ [n]) (hl:st.length≤1000000) (hc:L.chr=10):Goes1 199 L ((L.pk.emit 7 L.pk.txt).stk st) (plainT n):=by
 have e_45_935:(((L.chr:Nat):Int) == 45)=false:=bqf (by omega);have e_46_935:(((L.chr:Nat):Int) == 46)=false:=bqf (by omega);have e1:isDig L.chr=false:=by rw [hc];rfl
 have e2:isSuf L.chr=false:=by rw [hc];rfl
 have e3:isNLb L.chr=true:=by rw [hc];rfl
 clear hc;intro base S0 w0 w b h0;go_enter Tryz.func199,Tryz.ntmps199;go_wp2_with fail;refine (next_c h0 ok).mono ?_;rintro e w1 ⟨rfl,h1⟩;go_wp2_with fail;refine (isDig_c _ (chr_lt ok) _).mono ?_;rintro e w' ⟨rfl,rfl⟩;go_wp2_with fail;refine (isSuf_c _ (chr_lt ok) _).mono ?_;rintro e w' ⟨rfl,rfl⟩;go_wp2_with fail;refine (isNLb_c _ (chr_lt ok) _).mono ?_;rintro e w' ⟨rfl,rfl⟩;go_wp2_with fail;refine (back_c h1 ok.nxt (nxt_width _)).mono ?_;rintro e w2 ⟨rfl,h2⟩;rw [nxt_back] at h2;go_wp2_with fail;refine (emit_c 7 h2 ok.pk (by simpa [nxt_parts,pk_parts] using rdy.parts) (by have:=rdy.start;simp only [pk_start,pk_pos];omega) (by simpa [nxt_q,pk_q] using rdy.q)).mono ?_;rintro e w3 ⟨rfl,h3⟩;go_wp2_with fail;refine (pop_c st n h3 (by show L.pk.stack=_;rw [pk_stack];exact hst) hl).mono ?_;rintro e w4 ⟨rfl,h4⟩;go_wp2_with fail;go_ret;exact ⟨_,rfl,h4.plain _⟩
theorem suf_b (ok:L.Ok) (hc:L.chr=98):Goes1 212 L L.nxt (plainT 212):=by
 have e_98_935:(((L.chr:Nat):Int) == 98)=true:=beq_iff_eq.2 (by omega);clear hc;intro base S0 w0 w b h0;go_enter Tryz.func212,Tryz.ntmps212;go_wp2_with fail;refine (next_c h0 ok).mono ?_;rintro e w1 ⟨rfl,h1⟩;go_wp2_with fail;go_ret;exact ⟨_,rfl,h1.plain _⟩
theorem suf_B (ok:L.Ok) (hc:L.chr=66):Goes1 212 L L.nxt (plainT 212):=by
 have e_98_935:(((L.chr:Nat):Int) == 98)=false:=bqf (by omega);have e_66_935:(((L.chr:Nat):Int) == 66)=true:=beq_iff_eq.2 (by omega);clear hc;intro base S0 w0 w b h0;go_enter Tryz.func212,Tryz.ntmps212;go_wp2_with fail;refine (next_c h0 ok).mono ?_;rintro e w1 ⟨rfl,h1⟩;go_wp2_with fail;go_ret;exact ⟨_,rfl,h1.plain _⟩
theorem suf_i (ok:L.Ok) (hc:L.chr=105):Goes1 212 L L.nxt (plainT 212):=by
 have e_98_935:(((L.chr:Nat):Int) == 98)=false:=bqf (by omega);have e_66_935:(((L.chr:Nat):Int) == 66)=false:=bqf (by omega);have e_105_935:(((L.chr:Nat):Int) == 105)=true:=beq_iff_eq.2 (by omega);clear hc;intro base S0 w0 w b h0;go_enter Tryz.func212,Tryz.ntmps212;go_wp2_with fail;refine (next_c h0 ok).mono ?_;rintro e w1 ⟨rfl,h1⟩;go_wp2_with fail;go_ret;exact ⟨_,rfl,h1.plain _⟩
theorem suf_nl (ok:L.Ok) (rdy:L.Rdy) (st:List Nat) (n:Nat) (hst:L.stack=st ++ [n]) (hl:st.length≤1000000) (hc:L.chr=10):Goes1 212 L ((L.pk.emit 7 L.pk.txt).stk st) (plainT n):=by
 have e_98_935:(((L.chr:Nat):Int) == 98)=false:=bqf (by omega);have e_66_935:(((L.chr:Nat):Int) == 66)=false:=bqf (by omega);have e_105_935:(((L.chr:Nat):Int) == 105)=false:=bqf (by omega);have e_73_935:(((L.chr:Nat):Int) == 73)=false:=bqf (by omega);have e_0_935:(((L.chr:Nat):Int) == 0)=false:=bqf (by omega);have e_125_935:(((L.chr:Nat):Int) == 125)=false:=bqf (by omega);have e_59_935:(((L.chr:Nat):Int) == 59)=false:=bqf (by omega);have e_44_935:(((L.chr:Nat):Int) == 44)=false:=bqf (by omega);have e3:isNLb L.chr=true:=by rw [hc];rfl
 clear hc;intro base S0 w0 w b h0;go_enter Tryz.func212,Tryz.ntmps212;go_wp2_with fail;refine (next_c h0 ok).mono ?_;rintro e w1 ⟨rfl,h1⟩;go_wp2_with fail;refine (back_c h1 ok.nxt (nxt_width _)).mono ?_;rintro e w2 ⟨rfl,h2⟩;rw [nxt_back] at h2;go_wp2_with fail;refine (isNLb_c _ (chr_lt ok) _).mono ?_;rintro e w' ⟨rfl,rfl⟩;go_wp2_with fail;refine (emit_c 7 h2 ok.pk (by simpa [nxt_parts,pk_parts] using rdy.parts) (by have:=rdy.start;simp only [pk_start,pk_pos];omega) (by simpa [nxt_q,pk_q] using rdy.q)).mono ?_;rintro e w3 ⟨rfl,h3⟩;go_wp2_with fail;refine (pop_c st n h3 (by show L.pk.stack=_;rw [pk_stack];exact hst) hl).mono ?_;rintro e w4 ⟨rfl,h4⟩;go_wp2_with fail;go_ret;exact ⟨_,rfl,h4.plain _⟩
end
theorem conv_byte (W:World) (c:UInt8):(convert 27 9 (.slice (some ⟨W.heap.size,0,none⟩) 1 1)).run Tryz.prog (W.alloc (.cells #[.int .u8 (c.toNat:Int)] 5))=.ok (.string ⟨#[c]⟩) (W.alloc (.cells #[.int .u8 (c.toNat:Int)] 5)):=by
 refine run_convert_bytes_back _ 27 9 5 ⟨W.heap.size,0,none⟩ 1 [c] Tryz.underlying27 Tryz.underlying5 Tryz.underlying9 (fun j hj=>?_);obtain rfl:j=0:=by simpa using hj
 exact blk_cell (heap_alloc_new W (.cells #[.int .u8 (c.toNat:Int)] 5)) 0
def lowPre (s:ByteArray) (k:Nat):ByteArray:=⟨((Lib.toLowerA s.data.toList).take k).toArray⟩
theorem lowPre_size (s:ByteArray) (k:Nat):(lowPre s k).size≤k:=by
 show (((Lib.toLowerA s.data.toList).take k).toArray).size≤k
 simp;omega
theorem lowPre_succ (s:ByteArray) (k:Nat) (hk:k < s.size) (c:UInt8) (hc:c=Lib.lowerB (s[k]'hk)):lowPre s (k + 1)=lowPre s k ++ ⟨#[c]⟩:=by
 have hl:k < (Lib.toLowerA s.data.toList).length:=by
  unfold Lib.toLowerA;rw [List.length_map,data_length];exact hk
 unfold lowPre;rw [List.take_succ_eq_append_getElem hl];have e:(Lib.toLowerA s.data.toList)[k]=c:=by
  rw [hc];exact List.getElem_map Lib.lowerB
 rw [e];apply ByteArray.ext;rw [ByteArray.data_append];simp
set_option maxRecDepth 100000 in
set_option maxHeartbeats 2000000 in
theorem dnLower_c (s:ByteArray) (hs:s.size≤2147483647) (w:World):Calls Tryz.prog 41 #[.string s] w fun e w'=>e=.returned (.string ⟨(Lib.toLowerA s.data.toList).toArray⟩)∧Below w.heap.size w w':=by
 go_enter Tryz.func41,Tryz.ntmps41;go_wp2_with fail;go_loopw [3,4] (fun o i wr=>∃ k:Nat,k≤s.size∧o=.string (lowPre s k)∧i=.int .i64 k∧Below w.heap.size w wr) (fun _ i _=>s.size - (RowKit.intOf i).toNat)
 case atStart=>exact ⟨0,Nat.zero_le _,by unfold lowPre;simp,rfl,Below.refl _ _⟩
 case round =>
  obtain ⟨k,hk,rfl,rfl,hb⟩:=hrel;by_cases hlt:k < s.size
  ·have h1:(k:Int) < (s.size:Int):=by omega
   have hz:=lowPre_size s k;have ht:¬ 9223372036854775807 < (lowPre s k).size + 1:=by omega
   obtain ⟨b,hbb⟩:∃ b,b=s[k]'hlt:=⟨_,rfl⟩;have hb1:(s[k]'hlt)=b:=hbb.symm;by_cases hu:65≤b.toNat∧b.toNat≤90
   ·have e1:decide ((65:Int)≤(b.toNat:Int))=true:=decide_eq_true (by omega);have e2:decide ((b.toNat:Int)≤90)=true:=decide_eq_true (by omega);have hcv:=conv_byte wr (b + 32);have e3:((b + 32).toNat:Int)=(b.toNat:Int) + 32:=by rw [UInt8.toNat_add];show (((b.toNat + 32) % 256:Nat):Int)=_;omega
    rw [e3] at hcv;have hp:=lowPre_succ s k hlt (b + 32) (by
     have:Lib.isUpperB b=true:=by unfold Lib.isUpperB;simp only [Bool.and_eq_true,decide_eq_true_eq,UInt8.le_iff_toNat_le];exact hu
     rw [hb1,Lib.lowerB,if_pos this])
    have HP:=Lib.hid hp;clear hp e3 hbb;go_wp2;go_roundw
    case rel=>exact ⟨k + 1,by omega,by rw [HP.out],by go_num,hb.alloc hb.size _⟩
    case measure=>simp [RowKit.intOf];omega
   ·have hlow:Lib.lowerB b=b:=by
     have:Lib.isUpperB b=false:=by
      unfold Lib.isUpperB;rw [← Bool.not_eq_true];simp only [Bool.and_eq_true,decide_eq_true_eq,UInt8.le_iff_toNat_le];exact hu
     rw [Lib.lowerB,if_neg (by rw [this];decide)]
    have hp:=lowPre_succ s k hlt b (by rw [hb1,hlow]);have hcv:=conv_byte wr b;have HP:=Lib.hid hp;clear hp hbb hlow;by_cases h6:65≤b.toNat
    ·have e1:decide ((65:Int)≤(b.toNat:Int))=true:=decide_eq_true (by omega);have e2:decide ((b.toNat:Int)≤90)=false:=decide_eq_false (by omega);go_wp2;go_roundw
     case rel=>exact ⟨k + 1,by omega,by rw [HP.out],by go_num,hb.alloc hb.size _⟩
     case measure=>simp [RowKit.intOf];omega
    ·have e1:decide ((65:Int)≤(b.toNat:Int))=false:=decide_eq_false (by omega);go_wp2;go_roundw
     case rel=>exact ⟨k + 1,by omega,by rw [HP.out],by go_num,hb.alloc hb.size _⟩
     case measure=>simp [RowKit.intOf];omega
  ·have hke:k=s.size:=by omega
   subst hke;have hfull:lowPre s s.size=⟨(Lib.toLowerA s.data.toList).toArray⟩:=by
    unfold lowPre;rw [List.take_of_length_le (by unfold Lib.toLowerA;rw [List.length_map,data_length];exact Nat.le_refl _)]
   have HF:=Lib.hid hfull;clear hfull;go_wp2;go_ret;exact ⟨by rw [← HF.out];rfl,hb⟩
section
variable {B:Nat} {lab lab1:Lab} {w w1:World} {K:PK} {X:PX} {M:Nat→Prop}
theorem Mv.aDraw (M:Nat→Prop) (w:World) (lab:Lab):Mv M w lab w.drew lab:=⟨rfl,rfl,rfl,Nat.le_refl _,fun _ _ _=>rfl,fun _ _ _=>rfl⟩
theorem PAt.mv (h:PAt B lab w K X) (m:Mv M w lab w1 lab1) (hM:∀ x,x ≠ 7→¬ M x):PAt B lab1 w1 K X:=by
 obtain ⟨top,cv,kv,vs,h⟩:=h;exact ⟨top,cv,kv,vs,h.cl.mv m (hM _ (by decide)),h.lx.mv m (hM _ (by decide)),h.cv.mv m (hM _ (by decide)),h.kv.mv m (hM _ (by decide)),h.cs.mv m (hM _ (by decide)) (fun i _=>hM _ (by omega)),h.top,h.root⟩
theorem Rw.shorter {ℓ e n m:Nat} {g cap:Nat} {xs ys:List Value} (h:Rw B ℓ lab w e 1 (.slice (some ⟨g,0,none⟩) n cap) n (xs ++ ys)) (hm:xs.length=m) (hmn:m≤n):Rw B ℓ lab w e 1 (.slice (some ⟨g,0,none⟩) m cap) m xs :=
 ⟨own_shorter h.1 hm hmn,h.2⟩
theorem Cl.ne {ℓ ℓ' g g':Nat} {cs:Array Value} {t:TypeId} (h:Cl ℓ lab w g cs t) (h':lab g'=ℓ') (hne:ℓ ≠ ℓ'):g ≠ g':=by
 rintro rfl;exact hne (h.2.symm.trans h')
set_option maxHeartbeats 400000 in
theorem popKey_c (st:List ByteArray) (s:ByteArray) {top cv kv:Value} {vs:List Value} (h:PAtX B lab w K X top cv kv vs) (hks:X.ks=st ++ [s]) (hlen:st.length≤1000000) :
  Calls Tryz.prog 96 #[.pointer (some ⟨K.p,0,none⟩)] w fun e w'=>e=.returned (.string s)∧(∃ kv',PAtX B lab w' K { X with ks:=st } top cv kv' vs)∧Mv (·=2) w lab w' lab:=by
 have hown:=h.kv;rw [hks,List.length_append,List.length_singleton,List.map_append] at hown;obtain ⟨g,cap,rfl,hcap,hmx,hcell,cur,hgb⟩:=own_open hown.1 (by omega);have hcl:=hcell st.length (.string s) (by simp);have hown2:=Rw.shorter (m:=st.length) hown (by simp) (by omega);have c4:w.cell? ⟨K.p,4,none⟩=some (.slice (some ⟨g,0,none⟩) (st.length + 1) cap):=h.cl.cell 4;have f4:w.frozen? ⟨K.p,4,none⟩=false:=h.cl.free 4;have m2:Mv (·=2) w lab (w.setCell ⟨K.p,4,none⟩ (.slice (some ⟨g,0,none⟩) st.length cap)) lab:=Mv.setCell _ _ _ _ h.cl.2;have hne:g ≠ K.p:=(h.cl.ne (hown.2 g rfl) (by decide)).symm;have key:∃ kv',PAtX B lab (w.setCell ⟨K.p,4,none⟩ (.slice (some ⟨g,0,none⟩) st.length cap)) K { X with ks:=st } top cv kv' vs:=by
  refine ⟨.slice (some ⟨g,0,none⟩) st.length cap,?_⟩
  exact {
   cl:=h.cl.set 4 _
   lx:=h.lx.mv m2 (by decide)
   cv:=h.cv.mv m2 (by decide)
   kv:=hown2.mv m2 (by decide)
   cs:=h.cs.mv m2 (by decide) (fun i _=>by omega)
   top:=h.top
   root:=h.root }
 have mm:=m2;clear m2 hown hown2 h hcell hgb;have hpos:((st.length:Int) + 1 == 0)=false:=by simp;omega
 have hc2:st.length≤cap:=by omega
 unfold maxLen at hmx;have HK:=Lib.hid hks;clear hks;go_enter Tryz.func96,Tryz.ntmps96;go_wp2;go_ret;exact ⟨rfl,key,mm⟩
set_option maxHeartbeats 400000 in
theorem CsAt.length:∀ {cs:List CJ} {vs:List Value},CsAt B lab w cs vs→vs.length=cs.length
 | [],[],_=>rfl
 | _ :: _,_ :: _,h=>by simp [h.2.length]
 | [],_ :: _,h=>h.elim
 | _ :: _,[],h=>h.elim
set_option maxHeartbeats 400000 in
theorem pushContext_c (h:PAt B lab w K X) (hB:B≤w.heap.size) (hlen:X.cx.length≤1000000) (c:CJ) (t:TypeId) (u:Value) (hc:CAt B (10 + X.cx.length) lab w c (.iface t u)) (hroot:X.cx=[]→Value.iface t u=.iface 61 (.map (some K.mp))) :
  Calls Tryz.prog 54 #[.pointer (some ⟨K.p,0,none⟩),.iface t u] w fun e w'=>e=.returned (.tuple #[])∧∃ lab',PAt B lab' w' K { X with cx:=c :: X.cx }∧Mv PM w lab w' lab':=by
 obtain ⟨top,cv,kv,vs,h⟩:=h;have c3:w.cell? ⟨K.p,3,none⟩=some cv:=h.cl.cell 3;have hown:=h.cv.1;have hvl:vs.length=X.cx.length:=h.cs.length;go_enter Tryz.func54,Tryz.ntmps54;go_wp2_with (at_builtin;refine app_one B rfl _ _ 75 20 .nilIface 1 16 rfl Tryz.underlying75 info20 rfl (by decide) (by decide) cv vs.length vs.reverse [.iface t u] rfl rfl rfl (by simp;rfl) hown hB (by omega) ?_);intro v1 w1 hown1 hg1 hat1;have m1:Mv (·=3) w lab w1 (lab.ext w.heap.size 3):=Mv.grown hg1 lab 3 (fun k hk=>h.cv.2 k hk);have hcl:=h.cl.mv m1 (by decide);have c3':w1.cell? ⟨K.p,3,none⟩=some cv:=hcl.cell 3;have f3':w1.frozen? ⟨K.p,3,none⟩=false:=hcl.free 3;have c2':w1.cell? ⟨K.p,2,none⟩=some top:=hcl.cell 2;have f2':w1.frozen? ⟨K.p,2,none⟩=false:=hcl.free 2;have m2:Mv (·=2) w1 (lab.ext w.heap.size 3) (w1.setCell ⟨K.p,3,none⟩ v1) (lab.ext w.heap.size 3):=Mv.setCell _ _ _ _ hcl.2;have m3:Mv (·=2) (w1.setCell ⟨K.p,3,none⟩ v1) (lab.ext w.heap.size 3) ((w1.setCell ⟨K.p,3,none⟩ v1).setCell ⟨K.p,2,none⟩ (.iface t u)) (lab.ext w.heap.size 3):=Mv.setCell _ _ _ _ hcl.2;have m23:=m2.trans m3 (fun _ h=>h);have hroot2:∀ v,(Value.iface t u :: vs).getLast?=some v→v=.iface 61 (.map (some K.mp)):=by
  intro v hv
  cases vs with
  | nil =>
   simp only [List.getLast?_singleton,Option.some.injEq] at hv;rw [← hv];exact hroot (List.length_eq_zero_iff.1 hvl.symm)
  | cons x xs=>exact h.root v (by simpa using hv)
 have key:PAt B (lab.ext w.heap.size 3) ((w1.setCell ⟨K.p,3,none⟩ v1).setCell ⟨K.p,2,none⟩ (.iface t u)) K { X with cx:=c :: X.cx }:=by
  refine ⟨.iface t u,v1,kv,.iface t u :: vs,?_⟩
  exact {
   cl:=(hcl.set 3 v1).set 2 _
   lx:=(h.lx.mv m1 (by decide)).mv m23 (by decide)
   cv:=by
    have:=(h.cv.appended hown1 hg1 hat1).mv m23 (by decide);simpa [hvl] using this
   kv:=(h.kv.mv m1 (by decide)).mv m23 (by decide)
   cs:=⟨(hc.mv m1 (by omega) (by decide)).mv m23 (by omega) (by decide),(h.cs.mv m1 (by decide) (fun i _=>by omega)).mv m23 (by decide) (fun i _=>by omega)⟩
   top:=.inl rfl
   root:=hroot2 }
 have mm:Mv PM w lab ((w1.setCell ⟨K.p,3,none⟩ v1).setCell ⟨K.p,2,none⟩ (.iface t u)) (lab.ext w.heap.size 3):=(m1.mono (M':=PM) (by rintro x rfl;decide)).trans m23 (by rintro x rfl;decide);obtain ⟨g,cap,e7,_,_⟩:=hown1.form (by omega);clear hroot2 hroot hcl m1 m2 m3 m23 hown hown1 hg1 hat1 h c3 hc;subst e7;go_wp2;go_end0;exact ⟨rfl,_,key,mm⟩
end
def insL {α:Type} (x:ByteArray × α):List (ByteArray × α)→List (ByteArray × α)
 | []=>[x]
 | y :: r=>if bytesBefore x.1.data.toList y.1.data.toList then x :: y :: r else y :: insL x r
def putL {α:Type} (k:ByteArray) (x:α) (l:List (ByteArray × α)):List (ByteArray × α):=insL (k,x) (l.filter fun p=>!(p.1.data.toList == k.data.toList))
theorem insL_map {α β:Type} (g:α→β) (k:ByteArray) (x:α):∀ l:List (ByteArray × α),(insL (k,x) l).map (fun p=>(p.1,g p.2))=insL (k,g x) (l.map fun p=>(p.1,g p.2))
 | []=>rfl
 | y :: r=>by
  simp only [insL,List.map_cons]
  split
  ·rfl
  ·simp only [List.map_cons,insL_map g k x r]
theorem putL_map {α β:Type} (g:α→β) (k:ByteArray) (x:α) (l:List (ByteArray × α)):(putL k x l).map (fun p=>(p.1,g p.2))=putL k (g x) (l.map fun p=>(p.1,g p.2)):=by
 simp only [putL,insL_map,List.filter_map];rfl
theorem mem_insL {α:Type} {x y:ByteArray × α}:∀ {l:List (ByteArray × α)},y ∈ insL x l→y=x ∨ y ∈ l
 | [],h=>by simp [insL] at h;exact .inl h
 | z :: r,h=>by
  simp only [insL] at h
  split at h
  ·simpa using h
  ·rcases List.mem_cons.1 h with h | h
   ·exact .inr (by simp [h])
   ·rcases mem_insL h with h | h
    ·exact .inl h
    ·exact .inr (by simp [h])
theorem mem_putL {α:Type} {k:ByteArray} {x:α} {y:ByteArray × α} {l:List (ByteArray × α)} (h:y ∈ putL k x l):y=(k,x) ∨ y ∈ l:=by
 rcases mem_insL h with h | h
 ·exact .inl h
 ·exact .inr (List.mem_filter.1 h).1
theorem insert_entD (x:Ent):∀ t:List Ent,DataW.insert (.string x.1.data.toList,.held x.2.2) (t.map fun x=>((Lit.string x.1.data.toList,DataW.held x.2.2):Lit × DataW Value))=(insL x t).map fun x=>(.string x.1.data.toList,.held x.2.2)
 | []=>rfl
 | y :: r=>by
  by_cases h:bytesBefore x.1.data.toList y.1.data.toList=true
  ·simp only [insL,List.map_cons,DataW.insert,Lit.before,h,if_true]
  ·simp only [insL,List.map_cons,DataW.insert,Lit.before,h,insert_entD x r,if_false,Bool.false_eq_true]
theorem put_entD (k:ByteArray) (x:JV × Value) (t:List Ent):(entD t).put (.string k.data.toList) (.held x.2)=entD (putL k x t):=by
 unfold entD DataW.put putL;simp only [List.filter_map];rw [← insert_entD];rfl
section
variable {B:Nat} {lab lab1:Lab} {w w1:World} {K:PK} {X:PX} {M:Nat→Prop}
theorem isJs_iff:∀ t:List Ent,isJs B lab w (t.map (·.2.1)) (t.map (·.2.2)) ↔ ∀ x ∈ t,isJ B lab w x.2.1 x.2.2
 | []=>by simp [isJs]
 | x :: t=>by simp [isJs,isJs_iff t]
theorem isJs_app:∀ {l:List JV} {xs:List Value} {j:JV} {v:Value},isJs B lab w l xs→isJ B lab w j v→isJs B lab w (l ++ [j]) (xs ++ [v])
 | [],[],_,_,_,h=>by simpa [isJs] using h
 | _ :: _,_ :: _,_,_,h,h'=>by
  simp only [isJs,List.cons_append] at h ⊢;exact ⟨h.1,isJs_app h.2 h'⟩
 | [],_ :: _,_,_,h,_=>by simp [isJs] at h
 | _ :: _,[],_,_,h,_=>by simp [isJs] at h
theorem Mp.exact {b n:Nat} {t:List Ent} (h:w.ownsMap Tryz.prog 9 anyR b n (entD t)):w.ownsMap Tryz.prog 9 anyR b t.length (entD t):=by
 obtain ⟨es,clock,hb,F,hs,hD⟩:=h;refine ⟨es,clock,hb,F,?_,hD⟩;have h1:=length_read (P:=Tryz.prog) (k:=9) (R0:=anyR) es;unfold entD at hD
 injection hD with hD
 rw [← hD] at h1;simp at h1;omega
end
theorem ta_61_75 (u:Value) (w:World):(Instr.typeAssert (.iface 61 u) 20 75 true).run Tryz.prog w=.ok (.tuple #[.slice none 0 0,.bool false]) w:=by kernel_rfl
theorem ta_75_75 (u:Value) (w:World):(Instr.typeAssert (.iface 75 u) 20 75 true).run Tryz.prog w=.ok (.tuple #[u,.bool true]) w:=by kernel_rfl
theorem ta_61_61 (u:Value) (w:World):(Instr.typeAssert (.iface 61 u) 20 61 true).run Tryz.prog w=.ok (.tuple #[u,.bool true]) w:=by kernel_rfl
theorem ta_75_61 (u:Value) (w:World):(Instr.typeAssert (.iface 75 u) 20 61 true).run Tryz.prog w=.ok (.tuple #[.map none,.bool false]) w:=by kernel_rfl
attribute [local go_sem ↓] ta_61_75 ta_75_75 ta_61_61 ta_75_61
section
variable {B:Nat} {lab lab1:Lab} {w w1:World} {K:PK} {X:PX} {M:Nat→Prop}
theorem CsAt.form:∀ {cs:List CJ} {c:CJ} {vs:List Value},CsAt B lab w (c :: cs) vs→∃ v vs',vs=v :: vs'∧CAt B (10 + cs.length) lab w c v∧CsAt B lab w cs vs'
 | _,_,_ :: _,h=>⟨_,_,rfl,h.1,h.2⟩
set_option maxRecDepth 100000 in
set_option maxHeartbeats 1000000 in
theorem setValue_map (m:List (ByteArray × JV)) (cs:List CJ) (st:List ByteArray) (s:ByteArray) (h:PAt B lab w K X) (hped:K.ped=false) (hcx:X.cx=.map m :: cs) (hks:X.ks=st ++ [s])
  (hlen:st.length≤1000000) (hm:m.length≤1000000) (hs:s.size≤1000000) (j:JV) (t:TypeId) (u:Value) (hj:isJ B lab w j (.iface t u)) :
  Calls Tryz.prog 63 #[.pointer (some ⟨K.p,0,none⟩),.iface t u] w fun e w'=>e=.returned (.tuple #[])∧∃ lab',PAt B lab' w' K { X with cx:=.map (putL s j m) :: cs,ks:=st }∧Mv PM w lab w' lab':=by
 obtain ⟨top,cv,kv,vs,h⟩:=h;obtain ⟨v,vs',rfl,hc,hcs⟩:=CsAt.form (hcx ▸ h.cs);obtain ⟨b,es,rfl,hmp,hes,hjs⟩:=hc;have htop:top=.iface 61 (.map (some b)):=by have:=h.top;simp at this;exact this.symm
 subst htop;have c2:w.cell? ⟨K.p,2,none⟩=some (.iface 61 (.map (some b))):=h.cl.cell 2;have c7:w.cell? ⟨K.p,7,none⟩=some (.bool K.ped):=h.cl.cell 7;go_enter Tryz.func63,Tryz.ntmps63;go_wp2_with fail;refine (popKey_c st s h hks hlen).mono ?_;rintro e w1 ⟨rfl,⟨kv1,h1⟩,m1⟩;have c7:w1.cell? ⟨K.p,7,none⟩=some (.bool K.ped):=h1.cl.cell 7;rw [hped] at c7;have hcs1:=hcs.mv m1 (by decide) (fun i _=>by omega);have hmp1:=hmp.mv m1 (by omega);have hj1:=isJ.mv m1 (by decide) _ _ hj;have hjs1:=isJs.mv m1 (by decide) _ _ hjs;go_wp2_with (at_mapUpdate;refine wpList_mapUpdate_own _ rfl _ _ _ 61 rfl 9 20 (Maps.string_keyed Tryz.underlying9) Tryz.underlying61 anyR b es.length (entD es) rfl hmp1.1 ?_ (.string s) (.iface t u) (.string s.data.toList) rfl rfl (WideMaps.keyOf_string_mk (P:=Tryz.prog) Tryz.underlying9 ?_) (.held (.iface t u)) [] rfl ?_)
 ·have:=congrArg List.length hes;simp at this;unfold maxLen;omega
 ·unfold maxLen;omega
 intro w2 hown2 hg2;have m2:Mv (fun x=>x=10 + cs.length) w1 lab w2 (lab.ext w1.heap.size (10 + cs.length)):=Mv.grown hg2 lab _ (fun k hk=>by cases hk;exact hmp1.2);have hmp2:Mp (10 + cs.length) (lab.ext w1.heap.size (10 + cs.length)) w2 b (putL s (j,.iface t u) es):=by
  refine ⟨?_,by rw [Lab.ext_lt hmp1.1.lt];exact hmp1.2⟩;rw [put_entD s (j,.iface t u) es] at hown2;exact Mp.exact hown2
 have key:PAt B (lab.ext w1.heap.size (10 + cs.length)) w2 K { X with cx:=.map (putL s j m) :: cs,ks:=st }:=by
  refine ⟨.iface 61 (.map (some b)),cv,kv1,.iface 61 (.map (some b)) :: vs',?_⟩
  exact {
   cl:=h1.cl.mv m2 (by omega)
   lx:=h1.lx.mv m2 (by omega)
   cv:=h1.cv.mv m2 (by omega)
   kv:=h1.kv.mv m2 (by omega)
   cs:=by
    refine ⟨⟨b,putL s (j,.iface t u) es,rfl,hmp2,?_,?_⟩,hcs1.mv m2 (by omega) (fun i hi=>by omega)⟩
    ·rw [← hes];exact putL_map (fun p:JV × Value=>p.1) s (j,.iface t u) es
    ·rw [isJs_iff];intro x hx;rcases mem_putL hx with rfl | hx
     ·exact isJ.mv m2 (by omega) _ _ hj1
     ·exact isJ.mv m2 (by omega) _ _ ((isJs_iff es).1 hjs1 x hx)
   top:=.inl rfl
   root:=h1.root }
 have mm:Mv PM w lab w2 (lab.ext w1.heap.size (10 + cs.length)):=(m1.mono (M':=PM) (by rintro x rfl;decide)).trans m2 (by rintro x rfl;simp [PM];omega);clear m2 hown2 hg2 hmp2 h1 h hmp1 hmp;go_wp2;go_end0;exact ⟨rfl,_,key,mm⟩
theorem Rw.setLast {ℓ e n g cap:Nat} {xs:List Value} {x y:Value} (h:Rw B ℓ lab w e 1 (.slice (some ⟨g,0,none⟩) n cap) n (xs ++ [x])):Rw B ℓ lab (w.setCell ⟨g,xs.length,none⟩ y) e 1 (.slice (some ⟨g,0,none⟩) n cap) n (xs ++ [y]):=by
 obtain ⟨⟨hx,⟨h0,_⟩ | ⟨g',cap',cur,hv,hb,hblk,h1,h2,h3,h4⟩⟩,hl⟩:=h
 ·cases h0
 ·simp only [Value.slice.injEq,Option.some.injEq,Addr.mk.injEq] at hv;obtain ⟨⟨rfl,_,_⟩,_,rfl⟩:=hv;refine ⟨⟨by simpa using hx,.inr ⟨g,cap,_,rfl,hb,blk_setCell hblk _ _,h1,h2,by simpa using h3,?_⟩⟩,hl⟩;simp only [List.length_append,List.length_singleton,Nat.mul_one] at hx h4;rw [Nat.mul_one,Array.toList_setIfInBounds,List.take_set,h4,List.set_append_right _ _ (Nat.le_refl _)];simp
set_option maxRecDepth 100000 in
set_option maxHeartbeats 1000000 in
theorem setValue_arr (l:List JV) (cs:List CJ) (h:PAt B lab w K X) (hB:B≤w.heap.size) (hcx:X.cx=.arr l :: cs) (hlen:cs.length≤1000000) (hm:l.length≤1000000) (j:JV) (t:TypeId) (u:Value) (hj:isJ B lab w j (.iface t u)) :
  Calls Tryz.prog 63 #[.pointer (some ⟨K.p,0,none⟩),.iface t u] w fun e w'=>e=.returned (.tuple #[])∧∃ lab',PAt B lab' w' K { X with cx:=.arr (l ++ [j]) :: cs }∧Mv PM w lab w' lab':=by
 obtain ⟨top,cv,kv,vs,h⟩:=h;obtain ⟨v,vs',rfl,hc,hcs⟩:=CsAt.form (hcx ▸ h.cs);obtain ⟨s,xs,rfl,hr,hjs⟩:=hc;have htop:top=.iface 75 s:=by have:=h.top;simp at this;exact this.symm
 subst htop;have hvl:vs'.length=cs.length:=hcs.length;have c2:w.cell? ⟨K.p,2,none⟩=some (.iface 75 s):=h.cl.cell 2;have hown:=hr.1;go_enter Tryz.func63,Tryz.ntmps63;go_wp2_with (at_builtin;refine app_one B rfl _ _ 75 20 .nilIface 1 16 rfl Tryz.underlying75 info20 rfl (by decide) (by decide) s l.length xs [.iface t u] rfl rfl rfl (by simp;rfl) hown hB (by omega) ?_);intro v1 w1 hown1 hg1 hat1;have m1:Mv (·=10 + cs.length) w lab w1 (lab.ext w.heap.size (10 + cs.length)):=Mv.grown hg1 lab _ (fun k hk=>hr.2 k hk);have hcl:=h.cl.mv m1 (by omega);obtain ⟨g,cap,e7,_,_⟩:=hown1.form (by omega);subst e7;have hrw:=hr.appended hown1 hg1 hat1;have hcv:=h.cv.mv m1 (by omega);simp only [List.length_cons,List.reverse_cons] at hcv;obtain ⟨g3,cap3,rfl,hcap3,hmx3,hcell3,cur3,hgb3⟩:=own_open hcv.1 (by omega);have hl1:=hcell3 vs'.length (.iface 75 s) (by simp);have c2':w1.cell? ⟨K.p,2,none⟩=some (.iface 75 s):=hcl.cell 2;have f2':w1.frozen? ⟨K.p,2,none⟩=false:=hcl.free 2;have c3':w1.cell? ⟨K.p,3,none⟩=some (.slice (some ⟨g3,0,none⟩) (vs'.length + 1) cap3):=hcl.cell 3;have fg3:w1.frozen? ⟨g3,vs'.length,none⟩=false:=blk_free hgb3 _;have hne:g3 ≠ K.p:=(hcl.ne (hcv.2 g3 rfl) (by decide)).symm;have hne2:K.p ≠ g3:=fun e=>hne e.symm
 have m2:Mv (·=2) w1 (lab.ext w.heap.size (10 + cs.length)) (w1.setCell ⟨K.p,2,none⟩ (.iface 75 (.slice (some ⟨g,0,none⟩) (l.length + 1) cap))) (lab.ext w.heap.size (10 + cs.length)):=Mv.setCell _ _ _ _ hcl.2;have hcv2:=hcv.mv m2 (by decide);have m3:Mv (·=3) (w1.setCell ⟨K.p,2,none⟩ (.iface 75 (.slice (some ⟨g,0,none⟩) (l.length + 1) cap))) (lab.ext w.heap.size (10 + cs.length)) ((w1.setCell ⟨K.p,2,none⟩ (.iface 75 (.slice (some ⟨g,0,none⟩) (l.length + 1) cap))).setCell ⟨g3,vs'.length,none⟩ (.iface 75 (.slice (some ⟨g,0,none⟩) (l.length + 1) cap))) (lab.ext w.heap.size (10 + cs.length)):=Mv.setCell _ _ _ _ (hcv2.2 g3 rfl);have hcv3:=Rw.setLast (y:=.iface 75 (.slice (some ⟨g,0,none⟩) (l.length + 1) cap)) hcv2;rw [List.length_reverse] at hcv3;have hroot2:∀ v,(Value.iface 75 (.slice (some ⟨g,0,none⟩) (l.length + 1) cap) :: vs').getLast?=some v→v=.iface 61 (.map (some K.mp)):=by
  intro v hv
  cases vs' with
  | nil=>have:=h.root (.iface 75 s) (by simp);injection this with h1;cases h1
  | cons x xs=>exact h.root v (by simpa using hv)
 have key:PAt B (lab.ext w.heap.size (10 + cs.length)) ((w1.setCell ⟨K.p,2,none⟩ (.iface 75 (.slice (some ⟨g,0,none⟩) (l.length + 1) cap))).setCell ⟨g3,vs'.length,none⟩ (.iface 75 (.slice (some ⟨g,0,none⟩) (l.length + 1) cap))) K { X with cx:=.arr (l ++ [j]) :: cs }:=by
  refine ⟨.iface 75 (.slice (some ⟨g,0,none⟩) (l.length + 1) cap),.slice (some ⟨g3,0,none⟩) (vs'.length + 1) cap3,kv,.iface 75 (.slice (some ⟨g,0,none⟩) (l.length + 1) cap) :: vs',?_⟩
  exact {
   cl:=(hcl.set 2 _).mv m3 (by decide)
   lx:=((h.lx.mv m1 (by omega)).mv m2 (by decide)).mv m3 (by decide)
   cv:=by simpa using hcv3
   kv:=((h.kv.mv m1 (by omega)).mv m2 (by decide)).mv m3 (by decide)
   cs:=by
    refine ⟨⟨_,xs ++ [.iface t u],rfl,?_,?_⟩,((hcs.mv m1 (by omega) (fun i hi=>by omega)).mv m2 (by decide) (fun i hi=>by omega)).mv m3 (by decide) (fun i hi=>by omega)⟩
    ·simpa using (hrw.mv m2 (by omega)).mv m3 (by omega)
    ·refine isJs_app ?_ ?_
     ·exact isJs.mv m3 (by decide) _ _ (isJs.mv m2 (by decide) _ _ (isJs.mv m1 (by omega) _ _ hjs))
     ·exact isJ.mv m3 (by decide) _ _ (isJ.mv m2 (by decide) _ _ (isJ.mv m1 (by omega) _ _ hj))
   top:=.inl rfl
   root:=hroot2 }
 have mm:Mv PM w lab ((w1.setCell ⟨K.p,2,none⟩ (.iface 75 (.slice (some ⟨g,0,none⟩) (l.length + 1) cap))).setCell ⟨g3,vs'.length,none⟩ (.iface 75 (.slice (some ⟨g,0,none⟩) (l.length + 1) cap))) (lab.ext w.heap.size (10 + cs.length)) :=
  ((m1.mono (M':=PM) (by rintro x rfl;simp [PM];omega)).trans m2 (by rintro x rfl;decide)).trans m3 (by rintro x rfl;decide)
 have hw:IntKind.wrap .i64 ((vs'.length:Nat):Int)=((vs'.length:Nat):Int):=by
  simp [IntKind.wrap,IntKind.bits,IntKind.signed];omega
 have i0:(0:Int)≤((vs'.length:Nat):Int):=by omega
 have i1:((vs'.length:Nat):Int) < ((vs'.length:Nat):Int) + 1:=by omega
 have i2:((vs'.length:Nat):Int) < ((vs'.length + 1:Nat):Int):=by omega
 have HK:=Lib.hid hcx;have HV:=Lib.hid hvl;clear hroot2 hcx hvl hcv3 hcv2 m3 m2 m1 hrw hown1 hg1 hat1 hcl h hr hcv hcell3 hgb3 hown hcs hjs hj c2;go_wp2;refine wp_still_tail 15 mixed (by kernel_rfl) ?_;simp only [List.take_succ_cons,List.take_zero,List.drop_succ_cons,List.drop_zero]
 repeat still_step
 refine wpStill_nil ?_;go_wp2;go_end0;exact ⟨rfl,_,key.mv (Mv.aDraw (fun _=>False) _ _) (fun _ _ h=>h),mm.trans (Mv.aDraw (fun _=>False) _ _) (fun _ h=>h.elim)⟩
end
end Go.Cf
namespace Go.Cf
open Go.RowKit Go.Conc Go.Proofs
inductive PX.Sets (X:PX) (j:JV):PX→Prop
 | map (m:List (ByteArray × JV)) (cs:List CJ) (st:List ByteArray) (s:ByteArray) (hcx:X.cx=.map m :: cs) (hks:X.ks=st ++ [s]) (h1:st.length≤1000000) (h2:m.length≤1000000) (h3:s.size≤1000000) :
   Sets X j { X with cx:=.map (putL s j m) :: cs,ks:=st }
 | arr (l:List JV) (cs:List CJ) (hcx:X.cx=.arr l :: cs) (h1:cs.length≤1000000) (h2:l.length≤1000000):Sets X j { X with cx:=.arr (l ++ [j]) :: cs }
section
variable {B:Nat} {lab lab1:Lab} {w w1:World} {K:PK} {X X':PX} {M:Nat→Prop}
theorem setValue_c (h:PAt B lab w K X) (hB:B≤w.heap.size) (hped:K.ped=false) {j:JV} (hs:X.Sets j X') (t:TypeId) (u:Value) (hj:isJ B lab w j (.iface t u)) :
  Calls Tryz.prog 63 #[.pointer (some ⟨K.p,0,none⟩),.iface t u] w fun e w'=>e=.returned (.tuple #[])∧∃ lab',PAt B lab' w' K X'∧Mv PM w lab w' lab':=by
 cases hs with
 | map m cs st s hcx hks h1 h2 h3=>exact setValue_map m cs st s h hped hcx hks h1 h2 h3 j t u hj
 | arr l cs hcx h1 h2=>exact setValue_arr l cs h hB hcx h1 h2 j t u hj
theorem PAt.alloc7 (h:PAt B lab w K X) (o:Obj):PAt B (lab.ext w.heap.size 7) (w.alloc o) K X:=h.mv (Mv.alloc (M:=fun _=>False) w lab o 7) (fun _ _ h=>h)
set_option maxHeartbeats 400000 in
theorem lay_c (h:PAt B lab w K X) (hB:B≤w.heap.size) (hped:K.ped=false) {j:JV} (hs:X.Sets j X') (t:TypeId) (u:Value) (hj:isJ B lab w j (.iface t u)) (gp gf:Nat) (hgp:Cl 7 lab w gp #[.pointer (some ⟨K.p,0,none⟩)] 71)
  (xt:Nat) (xv:ByteArray) (xl xp:Int) :
  Calls Tryz.prog 62 #[.agg #[i64 xt,.string xv,i64 xl,i64 xp],.iface t u,.pointer (some ⟨gp,0,none⟩),.pointer (some ⟨gf,0,none⟩)] w fun e w'=>e=.returned (.tuple #[])∧∃ lab',PAt B lab' w' K X'∧Mv PM w lab w' lab':=by
 have m0:∀ o,Mv (fun _=>False) w lab (w.alloc o) (lab.ext w.heap.size 7):=fun o=>Mv.alloc w lab o 7
 have hB2:∀ o,B≤(w.alloc o).heap.size:=fun o=>by rw [World.size_alloc];omega
 have d0:w.cell? ⟨gp,0,none⟩=some (.pointer (some ⟨K.p,0,none⟩)):=hgp.cell 0;have e0:∀ o,(w.alloc o).cell? ⟨gp,0,none⟩=some (.pointer (some ⟨K.p,0,none⟩)):=fun o=>(World.cell?_alloc_lt w o _ (World.block_lt_of_cell? w _ d0)).trans d0
 obtain ⟨top,cv,kv,vs,hx⟩:=id h;have c7:w.cell? ⟨K.p,7,none⟩=some (.bool K.ped):=hx.cl.cell 7;rw [hped] at c7;have e7:∀ o,(w.alloc o).cell? ⟨K.p,7,none⟩=some (.bool false):=fun o=>(World.cell?_alloc_lt w o _ (World.block_lt_of_cell? w _ c7)).trans c7
 clear hx;go_enter Tryz.func62,Tryz.ntmps62;go_wp2_with fail;refine (setValue_c (h.mv (m0 _) (fun _ _ h=>h)) (hB2 _) hped hs t u (isJ.mv (m0 _) (fun h=>h) _ _ hj)).mono ?_;rintro e w1 ⟨rfl,lab',h',m'⟩;go_wp2;go_end0;exact ⟨rfl,lab',h',((m0 _).mono (fun _ h=>h.elim)).trans m' (fun _ h=>h)⟩
end
section
variable {B:Nat} {lab lab1:Lab} {w w1:World} {K:PK} {X X':PX} {M:Nat→Prop}
theorem Cl.alloc (w:World) (lab:Lab) (cs:Array Value) (t:TypeId) (ℓ:Nat):Cl ℓ (lab.ext w.heap.size ℓ) (w.alloc (.cells cs t)) w.heap.size cs t:=⟨heap_alloc_new w _,Lab.ext_ge (Nat.le_refl _)⟩
def Boxed (w:World) (K:PK) (xt:Nat) (xv:ByteArray) (xl xp:Int):World :=
 ((w.alloc (Obj.cells #[Value.pointer (some ⟨K.p,0,none⟩)] 71)).alloc (Obj.cells #[i64 xt,.string xv,i64 xl,i64 xp] 98)).alloc (Obj.cells #[.string { data:=#[] }] 9)
structure Bx (B:Nat) (lab:Lab) (w:World) (K:PK) (X:PX) (n xt:Nat) (xv:ByteArray) (xl xp:Int):Prop where
 pat:PAt B lab w K X
 hB:B≤w.heap.size
 b0:Cl 7 lab w n #[.pointer (some ⟨K.p,0,none⟩)] 71
 b1:Cl 7 lab w (n + 1) #[i64 xt,.string xv,i64 xl,i64 xp] 98
 b2:Cl 7 lab w (n + 1 + 1) #[.string { data:=#[] }] 9
theorem PAt.boxed (h:PAt B lab w K X) (hB:B≤w.heap.size) (xt:Nat) (xv:ByteArray) (xl xp:Int):∃ lab1,Bx B lab1 (Boxed w K xt xv xl xp) K X w.heap.size xt xv xl xp∧Mv PM w lab (Boxed w K xt xv xl xp) lab1:=by
 obtain ⟨w1,hw1⟩:∃ w1,w1=w.alloc (Obj.cells #[Value.pointer (some ⟨K.p,0,none⟩)] 71):=⟨_,rfl⟩;obtain ⟨w2,hw2⟩:∃ w2,w2=w1.alloc (Obj.cells #[i64 xt,.string xv,i64 xl,i64 xp] 98):=⟨_,rfl⟩;obtain ⟨w3,hw3⟩:∃ w3,w3=w2.alloc (Obj.cells #[.string { data:=#[] }] 9):=⟨_,rfl⟩;have e:Boxed w K xt xv xl xp=w3:=by subst hw1 hw2 hw3;rfl
 have s1:w1.heap.size=w.heap.size + 1:=by rw [hw1,World.size_alloc]
 have s2:w2.heap.size=w.heap.size + 1 + 1:=by rw [hw2,World.size_alloc,s1]
 have s3:w3.heap.size=w.heap.size + 1 + 1 + 1:=by rw [hw3,World.size_alloc,s2]
 have m1:Mv (fun _=>False) w lab w1 (lab.ext w.heap.size 7):=hw1 ▸ Mv.alloc _ _ _ _;have m2:Mv (fun _=>False) w1 (lab.ext w.heap.size 7) w2 ((lab.ext w.heap.size 7).ext w1.heap.size 7):=hw2 ▸ Mv.alloc _ _ _ _;have m3:Mv (fun _=>False) w2 ((lab.ext w.heap.size 7).ext w1.heap.size 7) w3 (((lab.ext w.heap.size 7).ext w1.heap.size 7).ext w2.heap.size 7):=hw3 ▸ Mv.alloc _ _ _ _;have c1:Cl 7 (lab.ext w.heap.size 7) w1 w.heap.size #[.pointer (some ⟨K.p,0,none⟩)] 71:=hw1 ▸ Cl.alloc _ _ _ _ _;have c2:Cl 7 ((lab.ext w.heap.size 7).ext w1.heap.size 7) w2 w1.heap.size #[i64 xt,.string xv,i64 xl,i64 xp] 98:=hw2 ▸ Cl.alloc _ _ _ _ _;have c3:Cl 7 (((lab.ext w.heap.size 7).ext w1.heap.size 7).ext w2.heap.size 7) w3 w2.heap.size #[.string { data:=#[] }] 9:=hw3 ▸ Cl.alloc _ _ _ _ _;rw [e];refine ⟨_,⟨((h.mv m1 (fun _ _ h=>h)).mv m2 (fun _ _ h=>h)).mv m3 (fun _ _ h=>h),by omega,(c1.mv m2 (fun h=>h)).mv m3 (fun h=>h),?_,?_⟩,((m1.mono (fun _ h=>h.elim)).trans m2 (fun _ h=>h.elim)).trans m3 (fun _ h=>h.elim)⟩
 ·rw [← s1];exact c2.mv m3 (fun h=>h)
 ·rw [← s2];exact c3
theorem Bx.mv {n xt:Nat} {xv:ByteArray} {xl xp:Int} (h:Bx B lab w K X n xt xv xl xp) (hp:PAt B lab1 w1 K X') (m:Mv PM w lab w1 lab1):Bx B lab1 w1 K X' n xt xv xl xp :=
 ⟨hp,Nat.le_trans h.hB m.size,h.b0.mv m (by simp [PM]),h.b1.mv m (by simp [PM]),h.b2.mv m (by simp [PM])⟩
theorem PAt.ped {ped:Bool} (h:PAt B lab w K X) (hped:K.ped=ped):w.cell? ⟨K.p,7,none⟩=some (.bool ped):=by
 obtain ⟨top,cv,kv,vs,h⟩:=h;rw [← hped];exact h.cl.cell 7
set_option maxRecDepth 100000 in
set_option maxHeartbeats 4000000 in
theorem item_key (h:PAt B lab w K X) (hB:B≤w.heap.size) (hped:K.ped=false) (hlen:X.ks.length≤1000000) (xv:ByteArray) (xl xp:Int) :
  Calls Tryz.prog 57 #[.pointer (some ⟨K.p,0,none⟩),.agg #[i64 3,.string xv,i64 xl,i64 xp],.string { data:=#[] }] w fun e w'=>e=.returned .nilIface∧∃ lab',PAt B lab' w' K { X with ks:=X.ks ++ [xv] }∧Mv PM w lab w' lab':=by
 obtain ⟨lab1,hb,m1⟩:=h.boxed hB 3 xv xl xp;go_enter Tryz.func57,Tryz.ntmps57;go_wp2_with fail;refine (pushKey_c hb.pat hb.hB hlen xv).mono ?_;rintro e w2 ⟨rfl,lab2,h2,m2⟩;have hb2:=hb.mv h2 m2;have d0:=hb2.b0.cell 0;have c7:=h2.ped hped;simp at d0;clear h hb;go_wp2;go_ret;exact ⟨rfl,lab2,h2,m1.trans m2 (fun _ h=>h)⟩
end
theorem nt_2_2 (u:Value) (w:World):(Instr.typeAssert (.iface 2 u) 20 2 true).run Tryz.prog w=.ok (.tuple #[u,.bool true]) w:=by kernel_rfl
theorem nt_22_2 (u:Value) (w:World):(Instr.typeAssert (.iface 22 u) 20 2 true).run Tryz.prog w=.ok (.tuple #[.int .i64 0,.bool false]) w:=by kernel_rfl
theorem nt_22_22 (u:Value) (w:World):(Instr.typeAssert (.iface 22 u) 20 22 true).run Tryz.prog w=.ok (.tuple #[u,.bool true]) w:=by kernel_rfl
theorem nt_4_2 (u:Value) (w:World):(Instr.typeAssert (.iface 4 u) 20 2 true).run Tryz.prog w=.ok (.tuple #[.int .i64 0,.bool false]) w:=by kernel_rfl
theorem nt_4_22 (u:Value) (w:World):(Instr.typeAssert (.iface 4 u) 20 22 true).run Tryz.prog w=.ok (.tuple #[.float .f64 0,.bool false]) w:=by kernel_rfl
theorem nt_4_4 (u:Value) (w:World):(Instr.typeAssert (.iface 4 u) 20 4 true).run Tryz.prog w=.ok (.tuple #[u,.bool true]) w:=by kernel_rfl
theorem nt_9_2 (u:Value) (w:World):(Instr.typeAssert (.iface 9 u) 20 2 true).run Tryz.prog w=.ok (.tuple #[.int .i64 0,.bool false]) w:=by kernel_rfl
theorem nt_9_22 (u:Value) (w:World):(Instr.typeAssert (.iface 9 u) 20 22 true).run Tryz.prog w=.ok (.tuple #[.float .f64 0,.bool false]) w:=by kernel_rfl
theorem nt_9_4 (u:Value) (w:World):(Instr.typeAssert (.iface 9 u) 20 4 true).run Tryz.prog w=.ok (.tuple #[.bool false,.bool false]) w:=by kernel_rfl
theorem nt_9_9 (u:Value) (w:World):(Instr.typeAssert (.iface 9 u) 20 9 true).run Tryz.prog w=.ok (.tuple #[u,.bool true]) w:=by kernel_rfl
theorem nt_75_2 (u:Value) (w:World):(Instr.typeAssert (.iface 75 u) 20 2 true).run Tryz.prog w=.ok (.tuple #[.int .i64 0,.bool false]) w:=by kernel_rfl
theorem nt_75_22 (u:Value) (w:World):(Instr.typeAssert (.iface 75 u) 20 22 true).run Tryz.prog w=.ok (.tuple #[.float .f64 0,.bool false]) w:=by kernel_rfl
theorem nt_75_4 (u:Value) (w:World):(Instr.typeAssert (.iface 75 u) 20 4 true).run Tryz.prog w=.ok (.tuple #[.bool false,.bool false]) w:=by kernel_rfl
theorem nt_75_9 (u:Value) (w:World):(Instr.typeAssert (.iface 75 u) 20 9 true).run Tryz.prog w=.ok (.tuple #[.string { data:=#[] },.bool false]) w:=by kernel_rfl
theorem nt_75_75 (u:Value) (w:World):(Instr.typeAssert (.iface 75 u) 20 75 true).run Tryz.prog w=.ok (.tuple #[u,.bool true]) w:=by kernel_rfl
theorem nt_61_2 (u:Value) (w:World):(Instr.typeAssert (.iface 61 u) 20 2 true).run Tryz.prog w=.ok (.tuple #[.int .i64 0,.bool false]) w:=by kernel_rfl
theorem nt_61_22 (u:Value) (w:World):(Instr.typeAssert (.iface 61 u) 20 22 true).run Tryz.prog w=.ok (.tuple #[.float .f64 0,.bool false]) w:=by kernel_rfl
theorem nt_61_4 (u:Value) (w:World):(Instr.typeAssert (.iface 61 u) 20 4 true).run Tryz.prog w=.ok (.tuple #[.bool false,.bool false]) w:=by kernel_rfl
theorem nt_61_9 (u:Value) (w:World):(Instr.typeAssert (.iface 61 u) 20 9 true).run Tryz.prog w=.ok (.tuple #[.string { data:=#[] },.bool false]) w:=by kernel_rfl
theorem nt_61_75 (u:Value) (w:World):(Instr.typeAssert (.iface 61 u) 20 75 true).run Tryz.prog w=.ok (.tuple #[.slice none 0 0,.bool false]) w:=by kernel_rfl
theorem nt_61_61 (u:Value) (w:World):(Instr.typeAssert (.iface 61 u) 20 61 true).run Tryz.prog w=.ok (.tuple #[u,.bool true]) w:=by kernel_rfl
attribute [local go_sem ↓] nt_2_2 nt_22_2 nt_22_22 nt_4_2 nt_4_22 nt_4_4 nt_9_2 nt_9_22 nt_9_4 nt_9_9 nt_75_2 nt_75_22 nt_75_4 nt_75_9 nt_75_75 nt_61_2 nt_61_22 nt_61_4 nt_61_9 nt_61_75 nt_61_61
theorem run_store_flt {P:Program} {W:World} {A:Addr} {k:FloatKind} {f:Nat} {m:Mode}:(store A (.float k f) m).run P W=stored P W A (.float k f) m:=run_store P W A _ m rfl
attribute [local go_sem] run_store_flt
theorem info26:(Tryz.prog.info? 26).map (·.size)=some 7:=by kernel_rfl
section
variable {w:World}
set_option maxRecDepth 100000 in
set_option maxHeartbeats 1000000 in
theorem node_int (n:Int):Calls Tryz.prog 31 #[.iface 2 (.int .i64 n)] w fun e w'=>e=.returned (.agg #[i64 1,.int .i64 n,.float .f64 0,.bool false,.string { data:=#[] },.slice none 0 0,.slice none 0 0])∧Below w.heap.size w w':=by
 have hb:∀ o,Below w.heap.size w (w.alloc o):=fun o=>(Below.refl _ w).alloc (Nat.le_refl _) o
 have HB:=Lib.hid hb;clear hb;go_enter Tryz.func31,Tryz.ntmps31;go_wp2;refine bodyPost_ret (results_cell rfl rfl (heap_alloc_new w _) Tryz.underlying26 rfl info26) rfl ?_;exact ⟨rfl,HB.out _⟩
set_option maxRecDepth 100000 in
set_option maxHeartbeats 1000000 in
theorem node_num (n:Nat):Calls Tryz.prog 31 #[.iface 22 (.float .f64 n)] w fun e w'=>e=.returned (.agg #[i64 2,i64 0,.float .f64 n,.bool false,.string { data:=#[] },.slice none 0 0,.slice none 0 0])∧Below w.heap.size w w':=by
 have hb:∀ o,Below w.heap.size w (w.alloc o):=fun o=>(Below.refl _ w).alloc (Nat.le_refl _) o
 have HB:=Lib.hid hb;clear hb;go_enter Tryz.func31,Tryz.ntmps31;go_wp2;refine bodyPost_ret (results_cell rfl rfl (heap_alloc_new w _) Tryz.underlying26 rfl info26) rfl ?_;exact ⟨rfl,HB.out _⟩
set_option maxRecDepth 100000 in
set_option maxHeartbeats 1000000 in
theorem node_tr (n:Bool):Calls Tryz.prog 31 #[.iface 4 (.bool n)] w fun e w'=>e=.returned (.agg #[i64 3,i64 0,.float .f64 0,.bool n,.string { data:=#[] },.slice none 0 0,.slice none 0 0])∧Below w.heap.size w w':=by
 have hb:∀ o,Below w.heap.size w (w.alloc o):=fun o=>(Below.refl _ w).alloc (Nat.le_refl _) o
 have HB:=Lib.hid hb;clear hb;go_enter Tryz.func31,Tryz.ntmps31;go_wp2;refine bodyPost_ret (results_cell rfl rfl (heap_alloc_new w _) Tryz.underlying26 rfl info26) rfl ?_;exact ⟨rfl,HB.out _⟩
set_option maxRecDepth 100000 in
set_option maxHeartbeats 1000000 in
theorem node_txt (n:ByteArray):Calls Tryz.prog 31 #[.iface 9 (.string n)] w fun e w'=>e=.returned (.agg #[i64 4,i64 0,.float .f64 0,.bool false,.string n,.slice none 0 0,.slice none 0 0])∧Below w.heap.size w w':=by
 have hb:∀ o,Below w.heap.size w (w.alloc o):=fun o=>(Below.refl _ w).alloc (Nat.le_refl _) o
 have HB:=Lib.hid hb;clear hb;go_enter Tryz.func31,Tryz.ntmps31;go_wp2;refine bodyPost_ret (results_cell rfl rfl (heap_alloc_new w _) Tryz.underlying26 rfl info26) rfl ?_;exact ⟨rfl,HB.out _⟩
end
end Go.Cf
