/- A part of the proof of FnTextFirst: a rule's text, written and read, walked. -/
import Derived.Lib.AppendIntMem
import Derived.Lib.AtoiErrMem
import Derived.Shelf.Strconv.Atoi
import Derived.Shelf.Strconv.Itoa3
import Derived.Shelf.Strings.OnBuilder
import Derived.Shelf.Strings.Prefix
import Derived.Shelf.Strings.TrimSpace
import Derived.Test.YtkidgehblodbcaaGreatDoorA12
set_option linter.all false
set_option maxRecDepth 100000
set_option maxHeartbeats 16000000
namespace Go.Proofs.YtkidgehblodbcaaGreatDoor
section
open Go.Shelf Go.Proofs.Tryz
theorem DD {P:Prop} (h:P:=by kernel_rfl):P:=h
theorem gB {PB:Type _} {a b:PB} (h:a=b:=by kernel_rfl):some a=some b:=congrArg some h
def ECA:Ren:=⟨λ|101=>117|208=>168|206=>204|n=>n,λ|9=>9|4=>4|3=>3|n=>n,λ|n=>n⟩
theorem FCA:Go.Proofs.Lays.n101 prog ECA:={
 mixed:=by kernel_rfl
 f101:=func117.trans gB
 f206:=func204.trans gB
 f208:=func168.trans gB
 t3:=underlying3
 a3:=isAgg3
 z3:=sizeOf3
 v3:=zeroValue3
 t4:=underlying4
 a4:=isAgg4
 z4:=sizeOf4
 v4:=zeroValue4
 t9:=underlying9
 a9:=isAgg9
 z9:=sizeOf9
 v9:=zeroValue9}
def GCA:Ren:=⟨λ|171=>128|243=>183|246=>216|283=>243|284=>244|285=>245|286=>246|129=>174|317=>263|318=>264|319=>265|320=>266|337=>275|338=>276|n=>n,λ|3=>3|9=>9|2=>2|4=>4|171=>295|0=>0|53=>222|37=>205|5=>5|173=>297|212=>319|51=>220|20=>20|213=>320|46=>181|232=>332|233=>333|n=>n,λ|17=>15|18=>17|19=>18|n=>n⟩
theorem HCA:Go.Proofs.LaysM.n171 prog GCA:={
 mixed:=by kernel_rfl
 f129:=func174.trans gB
 f171:=func128.trans gB
 f243:=func183.trans gB
 f246:=func216.trans gB
 f283:=func243.trans gB
 f284:=func244.trans gB
 f285:=func245.trans gB
 f286:=func246.trans gB
 f317:=func263.trans gB
 f318:=func264.trans gB
 f319:=func265.trans gB
 f320:=func266.trans gB
 f337:=func275.trans gB
 f338:=func276.trans gB
 t0:=underlying0
 a0:=isAgg0
 z0:=sizeOf0
 v0:=zeroValue0
 t2:=underlying2
 a2:=isAgg2
 z2:=sizeOf2
 v2:=zeroValue2
 t3:=underlying3
 a3:=isAgg3
 z3:=sizeOf3
 v3:=zeroValue3
 t4:=underlying4
 a4:=isAgg4
 z4:=sizeOf4
 v4:=zeroValue4
 t5:=underlying5
 a5:=isAgg5
 z5:=sizeOf5
 v5:=zeroValue5
 t9:=underlying9
 a9:=isAgg9
 z9:=sizeOf9
 v9:=zeroValue9
 t20:=underlying20
 a20:=isAgg20
 z20:=sizeOf20
 v20:=zeroValue20
 t37:=underlying205
 a37:=isAgg205
 z37:=sizeOf205
 v37:=zeroValue205
 t46:=underlying181
 a46:=isAgg181
 z46:=sizeOf181
 v46:=zeroValue181
 t51:=underlying220
 a51:=isAgg220
 z51:=sizeOf220
 v51:=zeroValue220
 t53:=underlying222
 a53:=isAgg222
 z53:=sizeOf222
 v53:=zeroValue222
 t171:=underlying295
 a171:=isAgg295
 z171:=sizeOf295
 v171:=zeroValue295
 t173:=underlying297
 a173:=isAgg297
 z173:=sizeOf297
 v173:=zeroValue297
 t212:=underlying319
 a212:=isAgg319
 z212:=sizeOf319
 v212:=zeroValue319
 t213:=underlying320
 a213:=isAgg320
 z213:=sizeOf320
 t232:=underlying332
 a232:=isAgg332
 z232:=sizeOf332
 v232:=zeroValue332
 t233:=underlying333
 a233:=isAgg333
 z233:=sizeOf333
 v233:=zeroValue333
 g17:=by kernel_rfl
 g18:=by kernel_rfl
 g19:=by kernel_rfl
 i0:=by kernel_rfl
 i2:=by kernel_rfl
 i3:=by kernel_rfl
 i4:=by kernel_rfl
 i5:=by kernel_rfl
 i9:=by kernel_rfl
 i20:=by kernel_rfl
 i37:=by kernel_rfl
 i46:=by kernel_rfl
 i51:=by kernel_rfl
 i53:=by kernel_rfl
 i171:=by kernel_rfl
 i173:=by kernel_rfl
 i212:=by kernel_rfl
 i232:=by kernel_rfl
 i233:=by kernel_rfl
 m17:=by kernel_rfl
 m18:=by kernel_rfl
 m19:=by kernel_rfl}
def ICA:Ren:=⟨λ|172=>120|244=>171|245=>172|247=>206|279=>207|280=>208|281=>209|282=>210|287=>240|316=>241|171=>128|205=>71|321=>261|322=>262|243=>183|246=>216|283=>243|284=>244|285=>245|286=>246|129=>174|317=>263|318=>264|319=>265|320=>266|337=>275|338=>276|n=>n,λ|9=>9|3=>3|75=>46|76=>166|4=>4|5=>5|167=>251|37=>205|0=>0|85=>252|2=>2|168=>254|53=>222|175=>289|46=>181|210=>292|127=>264|145=>176|143=>174|21=>21|171=>295|173=>297|212=>319|51=>220|20=>20|213=>320|232=>332|233=>333|80=>58|n=>n,λ|15=>10|16=>11|17=>15|18=>17|19=>18|n=>n⟩
theorem JCA:Go.Proofs.Lays.n172 prog ICA:={
 mixed:=by kernel_rfl
 f129:=func174.trans gB
 f171:=func128.trans gB
 f172:=func120.trans gB
 f205:=func71.trans gB
 f243:=func183.trans gB
 f244:=func171.trans gB
 f245:=func172.trans gB
 f246:=func216.trans gB
 f247:=func206.trans gB
 f279:=func207.trans gB
 f280:=func208.trans gB
 f281:=func209.trans gB
 f282:=func210.trans gB
 f283:=func243.trans gB
 f284:=func244.trans gB
 f285:=func245.trans gB
 f286:=func246.trans gB
 f287:=func240.trans gB
 f316:=func241.trans gB
 f317:=func263.trans gB
 f318:=func264.trans gB
 f319:=func265.trans gB
 f320:=func266.trans gB
 f321:=func261.trans gB
 f322:=func262.trans gB
 f337:=func275.trans gB
 f338:=func276.trans gB
 t0:=underlying0
 a0:=isAgg0
 z0:=sizeOf0
 v0:=zeroValue0
 t2:=underlying2
 a2:=isAgg2
 z2:=sizeOf2
 v2:=zeroValue2
 t3:=underlying3
 a3:=isAgg3
 z3:=sizeOf3
 v3:=zeroValue3
 t4:=underlying4
 a4:=isAgg4
 z4:=sizeOf4
 v4:=zeroValue4
 t5:=underlying5
 a5:=isAgg5
 z5:=sizeOf5
 v5:=zeroValue5
 t9:=underlying9
 a9:=isAgg9
 z9:=sizeOf9
 v9:=zeroValue9
 t20:=underlying20
 a20:=isAgg20
 z20:=sizeOf20
 v20:=zeroValue20
 t21:=underlying21
 a21:=isAgg21
 z21:=sizeOf21
 v21:=zeroValue21
 t37:=underlying205
 a37:=isAgg205
 z37:=sizeOf205
 v37:=zeroValue205
 t46:=underlying181
 a46:=isAgg181
 z46:=sizeOf181
 v46:=zeroValue181
 t51:=underlying220
 a51:=isAgg220
 z51:=sizeOf220
 v51:=zeroValue220
 t53:=underlying222
 a53:=isAgg222
 z53:=sizeOf222
 v53:=zeroValue222
 t75:=underlying46
 a75:=isAgg46
 z75:=sizeOf46
 v75:=zeroValue46
 t76:=underlying166
 a76:=isAgg166
 z76:=sizeOf166
 v76:=zeroValue166
 t85:=underlying252
 a85:=isAgg252
 z85:=sizeOf252
 v85:=zeroValue252
 t127:=underlying264
 a127:=isAgg264
 z127:=sizeOf264
 v127:=zeroValue264
 t143:=underlying174
 a143:=isAgg174
 z143:=sizeOf174
 v143:=zeroValue174
 t145:=underlying176
 a145:=isAgg176
 z145:=sizeOf176
 v145:=zeroValue176
 t167:=underlying251
 a167:=isAgg251
 z167:=sizeOf251
 v167:=zeroValue251
 t168:=underlying254
 a168:=isAgg254
 z168:=sizeOf254
 v168:=zeroValue254
 t171:=underlying295
 a171:=isAgg295
 z171:=sizeOf295
 v171:=zeroValue295
 t173:=underlying297
 a173:=isAgg297
 z173:=sizeOf297
 v173:=zeroValue297
 t175:=underlying289
 a175:=isAgg289
 z175:=sizeOf289
 v175:=zeroValue289
 t210:=underlying292
 a210:=isAgg292
 z210:=sizeOf292
 v210:=zeroValue292
 t212:=underlying319
 a212:=isAgg319
 z212:=sizeOf319
 v212:=zeroValue319
 t213:=underlying320
 a213:=isAgg320
 z213:=sizeOf320
 t232:=underlying332
 a232:=isAgg332
 z232:=sizeOf332
 v232:=zeroValue332
 t233:=underlying333
 a233:=isAgg333
 z233:=sizeOf333
 v233:=zeroValue333
 g15:=by kernel_rfl
 g16:=by kernel_rfl
 g17:=by kernel_rfl
 g18:=by kernel_rfl
 g19:=by kernel_rfl}
def KCA:Ren:=⟨λ|163=>113|237=>161|199=>162|238=>163|272=>195|261=>196|273=>197|197=>198|315=>231|311=>232|312=>233|271=>234|260=>235|120=>258|n=>n,λ|9=>9|37=>205|3=>3|0=>0|5=>5|4=>4|40=>207|119=>208|21=>21|51=>220|141=>241|105=>243|196=>278|193=>275|198=>281|49=>279|194=>276|201=>284|226=>306|46=>181|227=>307|139=>311|138=>310|n=>n,λ|0=>1|6=>9|3=>12|4=>13|n=>n⟩
theorem LCA:Go.Proofs.Lays.n163 prog KCA:={
 mixed:=by kernel_rfl
 f120:=func258.trans gB
 f163:=func113.trans gB
 f197:=func198.trans gB
 f199:=func162.trans gB
 f237:=func161.trans gB
 f238:=func163.trans gB
 f260:=func235.trans gB
 f261:=func196.trans gB
 f271:=func234.trans gB
 f272:=func195.trans gB
 f273:=func197.trans gB
 f311:=func232.trans gB
 f312:=func233.trans gB
 f315:=func231.trans gB
 t0:=underlying0
 a0:=isAgg0
 z0:=sizeOf0
 v0:=zeroValue0
 t3:=underlying3
 a3:=isAgg3
 z3:=sizeOf3
 v3:=zeroValue3
 t4:=underlying4
 a4:=isAgg4
 z4:=sizeOf4
 v4:=zeroValue4
 t5:=underlying5
 a5:=isAgg5
 z5:=sizeOf5
 v5:=zeroValue5
 t9:=underlying9
 a9:=isAgg9
 z9:=sizeOf9
 v9:=zeroValue9
 t21:=underlying21
 a21:=isAgg21
 z21:=sizeOf21
 v21:=zeroValue21
 t37:=underlying205
 a37:=isAgg205
 z37:=sizeOf205
 v37:=zeroValue205
 t40:=underlying207
 a40:=isAgg207
 z40:=sizeOf207
 v40:=zeroValue207
 t46:=underlying181
 a46:=isAgg181
 z46:=sizeOf181
 v46:=zeroValue181
 t49:=underlying279
 a49:=isAgg279
 z49:=sizeOf279
 v49:=zeroValue279
 t51:=underlying220
 a51:=isAgg220
 z51:=sizeOf220
 v51:=zeroValue220
 t105:=underlying243
 a105:=isAgg243
 z105:=sizeOf243
 v105:=zeroValue243
 t119:=underlying208
 a119:=isAgg208
 z119:=sizeOf208
 t138:=underlying310
 a138:=isAgg310
 z138:=sizeOf310
 v138:=zeroValue310
 t139:=underlying311
 a139:=isAgg311
 z139:=sizeOf311
 v139:=zeroValue311
 t141:=underlying241
 a141:=isAgg241
 z141:=sizeOf241
 v141:=zeroValue241
 t193:=underlying275
 a193:=isAgg275
 z193:=sizeOf275
 v193:=zeroValue275
 t194:=underlying276
 a194:=isAgg276
 z194:=sizeOf276
 v194:=zeroValue276
 t196:=underlying278
 a196:=isAgg278
 z196:=sizeOf278
 v196:=zeroValue278
 t198:=underlying281
 a198:=isAgg281
 z198:=sizeOf281
 v198:=zeroValue281
 t201:=underlying284
 a201:=isAgg284
 z201:=sizeOf284
 v201:=zeroValue284
 t226:=underlying306
 a226:=isAgg306
 z226:=sizeOf306
 v226:=zeroValue306
 t227:=underlying307
 a227:=isAgg307
 z227:=sizeOf307
 v227:=zeroValue307
 g0:=by kernel_rfl
 g3:=by kernel_rfl
 g4:=by kernel_rfl
 g6:=by kernel_rfl}
def Et:Ren:=⟨λ|156=>132|165=>186|166=>187|169=>188|240=>217|241=>218|276=>247|277=>248|n=>n,λ|31=>157|9=>9|3=>3|4=>4|0=>0|20=>20|72=>236|76=>166|70=>234|37=>205|75=>46|127=>264|164=>299|5=>5|80=>58|n=>n,λ|n=>n⟩
theorem Ft:Go.Proofs.Lays.n156 prog Et:={
 mixed:=by kernel_rfl
 f156:=func132.trans gB
 f165:=func186.trans gB
 f166:=func187.trans gB
 f169:=func188.trans gB
 f240:=func217.trans gB
 f241:=func218.trans gB
 f276:=func247.trans gB
 f277:=func248.trans gB
 t0:=underlying0
 a0:=isAgg0
 z0:=sizeOf0
 v0:=zeroValue0
 t3:=underlying3
 a3:=isAgg3
 z3:=sizeOf3
 v3:=zeroValue3
 t4:=underlying4
 a4:=isAgg4
 z4:=sizeOf4
 v4:=zeroValue4
 t9:=underlying9
 a9:=isAgg9
 z9:=sizeOf9
 v9:=zeroValue9
 t20:=underlying20
 a20:=isAgg20
 z20:=sizeOf20
 v20:=zeroValue20
 t31:=underlying157
 a31:=isAgg157
 z31:=sizeOf157
 v31:=zeroValue157
 t37:=underlying205
 a37:=isAgg205
 z37:=sizeOf205
 v37:=zeroValue205
 t70:=underlying234
 a70:=isAgg234
 z70:=sizeOf234
 v70:=zeroValue234
 t72:=underlying236
 a72:=isAgg236
 z72:=sizeOf236
 v72:=zeroValue236
 t75:=underlying46
 a75:=isAgg46
 z75:=sizeOf46
 v75:=zeroValue46
 t76:=underlying166
 a76:=isAgg166
 z76:=sizeOf166
 v76:=zeroValue166
 t127:=underlying264
 a127:=isAgg264
 z127:=sizeOf264
 v127:=zeroValue264
 t164:=underlying299
 a164:=isAgg299
 z164:=sizeOf299
 v164:=zeroValue299}
def Gt:Ren:=⟨λ|158=>165|165=>186|166=>187|167=>199|169=>188|230=>200|203=>201|240=>217|241=>218|197=>198|118=>236|168=>237|270=>238|262=>239|276=>247|277=>248|260=>235|242=>259|313=>260|278=>272|274=>273|275=>274|n=>n,λ|9=>9|4=>4|3=>3|5=>5|72=>236|0=>0|76=>166|75=>46|107=>247|70=>234|20=>20|37=>205|127=>264|21=>21|105=>243|164=>299|162=>315|203=>313|119=>208|46=>181|139=>311|138=>310|51=>220|160=>325|208=>331|206=>329|80=>58|n=>n,λ|13=>14|3=>12|4=>13|n=>n⟩
theorem MCA:Go.Proofs.Lays.n158 prog Gt:={
 mixed:=by kernel_rfl
 f118:=func236.trans gB
 f158:=func165.trans gB
 f165:=func186.trans gB
 f166:=func187.trans gB
 f167:=func199.trans gB
 f168:=func237.trans gB
 f169:=func188.trans gB
 f197:=func198.trans gB
 f203:=func201.trans gB
 f230:=func200.trans gB
 f240:=func217.trans gB
 f241:=func218.trans gB
 f242:=func259.trans gB
 f260:=func235.trans gB
 f262:=func239.trans gB
 f270:=func238.trans gB
 f274:=func273.trans gB
 f275:=func274.trans gB
 f276:=func247.trans gB
 f277:=func248.trans gB
 f278:=func272.trans gB
 f313:=func260.trans gB
 t0:=underlying0
 a0:=isAgg0
 z0:=sizeOf0
 v0:=zeroValue0
 t3:=underlying3
 a3:=isAgg3
 z3:=sizeOf3
 v3:=zeroValue3
 t4:=underlying4
 a4:=isAgg4
 z4:=sizeOf4
 v4:=zeroValue4
 t5:=underlying5
 a5:=isAgg5
 z5:=sizeOf5
 v5:=zeroValue5
 t9:=underlying9
 a9:=isAgg9
 z9:=sizeOf9
 v9:=zeroValue9
 t20:=underlying20
 a20:=isAgg20
 z20:=sizeOf20
 v20:=zeroValue20
 t21:=underlying21
 a21:=isAgg21
 z21:=sizeOf21
 v21:=zeroValue21
 t37:=underlying205
 a37:=isAgg205
 z37:=sizeOf205
 v37:=zeroValue205
 t46:=underlying181
 a46:=isAgg181
 z46:=sizeOf181
 v46:=zeroValue181
 t51:=underlying220
 a51:=isAgg220
 z51:=sizeOf220
 v51:=zeroValue220
 t70:=underlying234
 a70:=isAgg234
 z70:=sizeOf234
 v70:=zeroValue234
 t72:=underlying236
 a72:=isAgg236
 z72:=sizeOf236
 v72:=zeroValue236
 t75:=underlying46
 a75:=isAgg46
 z75:=sizeOf46
 v75:=zeroValue46
 t76:=underlying166
 a76:=isAgg166
 z76:=sizeOf166
 v76:=zeroValue166
 t105:=underlying243
 a105:=isAgg243
 z105:=sizeOf243
 v105:=zeroValue243
 t107:=underlying247
 a107:=isAgg247
 z107:=sizeOf247
 v107:=zeroValue247
 t119:=underlying208
 a119:=isAgg208
 z119:=sizeOf208
 t127:=underlying264
 a127:=isAgg264
 z127:=sizeOf264
 v127:=zeroValue264
 t138:=underlying310
 a138:=isAgg310
 z138:=sizeOf310
 v138:=zeroValue310
 t139:=underlying311
 a139:=isAgg311
 z139:=sizeOf311
 v139:=zeroValue311
 t160:=underlying325
 a160:=isAgg325
 z160:=sizeOf325
 v160:=zeroValue325
 t162:=underlying315
 a162:=isAgg315
 z162:=sizeOf315
 v162:=zeroValue315
 t164:=underlying299
 a164:=isAgg299
 z164:=sizeOf299
 v164:=zeroValue299
 t203:=underlying313
 a203:=isAgg313
 z203:=sizeOf313
 v203:=zeroValue313
 t206:=underlying329
 a206:=isAgg329
 z206:=sizeOf329
 v206:=zeroValue329
 t208:=underlying331
 a208:=isAgg331
 z208:=sizeOf331
 v208:=zeroValue331
 g3:=by kernel_rfl
 g4:=by kernel_rfl
 g13:=by kernel_rfl}
end
namespace En
open Go.Shelf Go.RowKit Go.Proofs.Tryz
theorem NCA {w:World} (g:GV w):Lib.TabIs prog w "strings.asciiSpace" .u8 Lib.asciiSpaceTab:=by
 obtain⟨t,fr,e⟩:=g (1,zX) (by simp[rG])
 unfold Lib.TabIs World.var?
 rw[show prog.globalNamed "strings.asciiSpace" =some 1 by kernel_rfl]
 dsimp only[Option.bind]
 rw[e]
 kernel_rfl
theorem OCA {w:World} (g:GV w):Lib.TabIs prog w "internal/strconv.uint64pow10" .u64 Lib.pow10Tab:=by
 obtain⟨t,fr,e⟩:=g (15,AY) (by simp[rG])
 unfold Lib.TabIs World.var?
 rw[show prog.globalNamed "internal/strconv.uint64pow10" =some 15 by kernel_rfl]
 dsimp only[Option.bind]
 rw[e]
 kernel_rfl
abbrev SB (l:yA):Value:= .string ⟨l.toArray⟩
theorem nX (n:Int) (h: -100000<n/\n<100000):Pure prog 128 [.int .i64 n] (SB (Lib.itoa n)):=λw g=>
 (Any.strconv_Itoa HCA n O O w (OCA g)).mono λe w' ⟨he,k,os,hw⟩=>⟨he,by rw[hw];exact Lib.below_grow _ _ qA k os⟩
theorem ia (s:yA) (n:Int) (hl:s.length<=18) (h:Lib.atoi s=some n):Pure prog 120 [SB s] (.tuple #[.int .i64 n, .nilIface]):=λw g=>
 (Any.strconv_Atoi JCA ⟨s.toArray⟩ n hl (by simpa using h) w).mono λe w' ⟨he,t,hw⟩=>⟨he,by rw[hw];exact Lib.bytesWorld_below w _ t⟩
theorem ja (s:yA) (hl:s.length<=1000000) (ha:∀b∈s,b.toNat<128):Pure prog 113 [SB s] (SB (Lib.trimSpace s)):=λw g=>
 (Any.strings_TrimSpace LCA ⟨by kernel_rfl⟩ ⟨s.toArray⟩ w (by show s.length<=_;omega) (λj b Z=>ha b (List.mem_of_getElem? (by simpa using Z))) (NCA g)).mono λe w' ⟨he,hw⟩=>⟨by simpa using he,by rw[hw];exact Lib.bytesWorld_below w _ _⟩
theorem Ht (s p:yA):Pure prog 117 [SB s,SB p] (SB (Lib.trimPrefix s p)):=λw g=>
 (Any.strings_TrimPrefix FCA ⟨s.toArray⟩ ⟨p.toArray⟩ w).mono λe w' ⟨he,hw⟩=>⟨by simpa using he,by rw[hw];exact Below.refl _ _⟩
theorem PCA:Builder.Extra prog Gt:={sizeBuilder:=by kernel_rfl,liesBuilder:=by kernel_rfl,t5:=underlying5,a5:=isAgg5,z5:=sizeOf5,v5:=zeroValue5,infoByte:=by kernel_rfl,cellsByte:=by kernel_rfl,sizeByte:=by kernel_rfl,neB5:=by decide}
theorem It:Builder.Extra prog Et:={sizeBuilder:=by kernel_rfl,liesBuilder:=by kernel_rfl,t5:=underlying5,a5:=isAgg5,z5:=sizeOf5,v5:=zeroValue5,infoByte:=by kernel_rfl,cellsByte:=by kernel_rfl,sizeByte:=by kernel_rfl,neB5:=by decide}
theorem QCA (s:yA) (hl:s.length<=1000000) (ha:∀b∈s,b.toNat<128):Pure prog 165 [SB s] (SB (Lib.toUpperA s)):=λw g=>
 (Any.strings_ToUpper_ascii MCA PCA ⟨s.toArray⟩ w (by show s.length<=_;omega) (λj b Z=>ha b (List.mem_of_getElem? (by simpa using Z)))).mono λe w' ⟨he,hw⟩=>⟨by simpa using he,hw⟩
def strs (l:List yA):List SV:=l.map λs=> .v (SB s)
theorem fI (l:List yA):(strs l).length=l.length:=by simp[strs]
theorem bg (l:List yA):strs l=cC (l.map SB):=by simp[strs,cC]
@[simp] theorem GO (LA:Nat->Nat) (l:List yA):YA LA (strs l)=strs l:=by rw[bg,ji]
theorem cg (n:Nat) (l:List yA):LG n (strs l)=true:=by rw[bg];exact Qc n _
theorem fg (l:List yA) (c:UInt8) (hN:l.length<=1000000) (hlen:(Lib.join l [c]).length<=1000000000):Fn prog 132 [.s 0 0 l.length, .v (SB [c])] [(0,some (.ro (strs l)))] 1 (.v (SB (Lib.join l [c]))) [] 1:=by
 refine⟨Nat.le_refl _,λw W G ys g hu M d=> ?_⟩
 simp only[ZA]at d
 obtain⟨y1,r1,rfl,d1,y2,r2,rfl,d2,rfl⟩:=d
 simp only[aA]at d2
 subst d2
 have fin:Calls prog 132 (List.toArray [y1,SB [c]]) w λe w'=>e= .returned (SB (Lib.join l [c]))/\Below w.heap.size w w':=by
  simp only[aA]at d1
  have Jt:∀(a:Option Addr) (cap:Nat),l=[]->Calls prog 132 (List.toArray [.slice a l.length cap,SB [c]]) w λe w'=>e= .returned (SB (Lib.join l [c]))/\Below w.heap.size w w':=λa cap hl=>by
   subst hl
   exact(Any.strings_Join_none Ft It a cap ⟨#[c]⟩ w).mono λe w' ⟨he,hw⟩=>⟨he,by rw[hw];exact Below.refl _ _⟩
  rcases d1 with⟨e,h0,hn,rfl⟩|⟨r,k,cc,ad,cap,e,rfl,aM,rQ,_,bM⟩
  ·have:=Jt none 0 (List.length_eq_zero_iff.1 hn)
   rwa [hn]at this
  ·by_cases hl:l=[]
   ·exact Jt (some ad) cap hl
   ·have bM:=bM (λh0=>hl (List.length_eq_zero_iff.1 h0))
    subst bM
    have dB:=M.ok 0 (.ro (strs l)) rfl
    have:=Any.strings_Join Ft It r (k+0) cap (l.map λs=>(⟨s.toArray⟩:ByteArray)) ⟨#[c]⟩ w (λj x hx=>by
     rw[List.getElem?_map,Option.map_eq_some_iff]at hx
     obtain⟨s,hs,rfl⟩:=hx
     obtain⟨y,hy,dy⟩:=dB.cell e (i:=j) (x:= .v (SB s)) (by show(strs l)[j]? =_;unfold strs;rw[List.getElem?_map,hs];rfl)
     simp only[aA]at dy
     rw[Nat.add_zero,hy,dy]) (dB.lt _ _ _ e) (by rw[List.length_map];omega) (by rw[List.length_map];exact aM) (by simp[List.map_map,Function.comp_def];omega)
    rw[List.length_map]at this
    exact this.mono λe w' ⟨he,Z⟩=>⟨by simpa [List.map_map,Function.comp_def]using he,Z⟩
 exact fin.mono λe w' ⟨he,Z⟩=>⟨_,G,he,λ_ _=>rfl,hu,by simp[aA],(MH.GA w W G).later Z⟩
end En
namespace En
open Go.RowKit Go.Proofs.Tryz
theorem IJ (a b:yA):((⟨a.toArray⟩:ByteArray)++(⟨b.toArray⟩:ByteArray))=⟨(a++b).toArray⟩:=by
 apply ByteArray.ext
 rw[ByteArray.data_append]
 simp
theorem gI (a:yA) (i j:Nat):(⟨a.toArray⟩:ByteArray).extract i j=⟨((a.drop i).take (j-i)).toArray⟩:=by
 apply ByteArray.ext
 rw[ByteArray.data_extract]
 simp[List.extract_eq_take_drop]
theorem gL (a:yA):(⟨a.toArray⟩:ByteArray).size=a.length:=rfl
theorem Kt (a:yA):(⟨a.toArray⟩:ByteArray).toList=a:=by rw[ByteArray.toList_eq]
theorem BB (a b:yA):((⟨a.toArray⟩:ByteArray).toList==(⟨b.toArray⟩:ByteArray).toList)=decide (a=b):=by
 rw[Kt,Kt,Bool.eq_iff_iff,beq_iff_eq];simp
abbrev S (l:yA):SV:= .v (SB l)
theorem iJ {C:Cx} {f:Nat} {eB:List SV} {H:HS} {Y:Nat} {c0:Bool} {k:QD->Prop} {fn:Func} {args Lt:List Value} {r:Value} (s:SV) (hf:prog.funcs[f]? =some fn) (hP:C.P=prog) (Z:fn.body.isNone=false)
  (h:c0=true->Pure prog f args r) (ha:JE.vOfL eB=some Lt) (e:Lt=args) (hs:JE s=some r) (hk:k ⟨s,[],Y,[]⟩):cA C f eB H Y c0 k:=
 ⟨.inl (ti (by rw[hP];exact hf) Z (e▸ha) hs (λhc=>by rw[hP];exact h hc) hk)⟩
theorem eqT {s1:SV} {a b:ByteArray} (h:a=b) (hs:s1= .v (.string a)):s1= .v (.string b):=by rw[hs,h]
theorem RCA (n:Int) (h: -100000<n/\n<100000):Fn prog 184 [I n] [] 0 (S (cI n)) [] 0:=by
 have hl:=GM (n:=n) O
 refine fm (KA 21) func184 λw W G g=> ?_
 repeat' (first
  |refine tk ?_
  |(refine AB 128 ?_;refine iJ (S (Lib.itoa n)) func128 rfl rfl (λ_=>nX n h) rfl rfl rfl ?_)
  |refine And.intro (λ_=>by simp only[gL,List.length_cons,List.length_nil];omega) ?_
  |refine CA ?_|refine an ?_ ?_|(intro Z;try simp at Z))
 ·refine DB ?_ qA
  show S _=S _;unfold cI;rw[if_pos (by assumption)]
 ·refine DB ?_ qA
  show SV.v (.string _)=S _;unfold cI;rw[if_neg O,IJ];rfl
theorem SCA (f:Nat) (h:f<7):Fn prog 127 [I f] [] 0 (S (JN.getD f [])) [] 0:=by
 rcases(by omega:f=0\/f=1\/f=2\/f=3\/f=4\/f=5\/f=6)with rfl|rfl|rfl|rfl|rfl|rfl|rfl
 all_goals
  refine fm (KA 5) func127 λw W G g=> ?_
  repeat' (first
   |refine tk ?_
   |refine CA ?_|refine an ?_ ?_|(intro Z;try simp at Z))
  exact DB rfl qA
theorem Mt (w n:Int) (hw:0<=w/\w<7) (h: -100000<n/\n<100000):Fn prog 129 [.agg (A [w,n])] [] 0 (S (ZE (w,n))) [] 0:=by
 have hl:=GM (n:=n) O
 have oB:(cI n).length<=8:=by unfold cI;split<;>(try simp)<;>omega
 rcases(by omega:w=0\/w=1\/w=2\/w=3\/w=4\/w=5\/w=6)with rfl|rfl|rfl|rfl|rfl|rfl|rfl
 all_goals
  refine fm (KA 1039) func129 λw W G g=> ?_
  repeat' (first
   |refine tk ?_
   |refine cz 184 func184 (λ_=>RCA n h) ?_
   |refine And.intro (λ_=>by simp only[gL,List.length_cons,List.length_nil];omega) ?_
   |refine CA ?_|refine an ?_ ?_|(intro Z;try simp at Z))
  ·refine DB ?_ qA
   show SV.v (.string _)=S _;unfold ZE;rw[if_pos (by assumption)];rfl
  ·refine DB ?_ qA
   show SV.v (.string _)=S _;unfold ZE;rw[if_neg (by assumption),IJ];rfl
theorem ka {a b:ByteArray} (h:a=b):some (RV.u (.v (.string a)))=some (RV.u (.v (.string b))):=by rw[h]
theorem ma {C:Cx} {f:Nat} {eB:List SV} {H:HS} {Y:Nat} {c0:Bool} {k:QD->Prop} {fn:Func} {s1:SV} {ig:List SV} (hf:prog.funcs[f]? =some fn) (hP:C.P=prog) (Z:fn.body.isNone=false)
  (h:c0=true->Fn prog f ig [] 0 s1 [] 0) (e:eB=ig) {args:List Value} (ha:JE.vOfL ig=some args) {r:Value} (hr:JE s1=some r) (hk:k ⟨s1,[],Y,[]⟩):cA C f eB H Y c0 k:=by
 subst e;exact Qk hf hP Z h ha hr hk
theorem na {l:List yA} {o:Nat} {c0:Bool} {k:SV->Prop} (h:o<l.length) (hk:k (S (l.getD o []))):AL (.v (.int .i64 0)) c0 (strs l) o k:=
 DV (by simp[strs,h,List.getD_eq_getElem?_getD]) hk
theorem Nt {M:List yA} {o:Nat} {v:yA} {k:List SV->Prop} (h:o<M.length) (hk:k (strs (M.set o v))):JK (strs M) o [S v] k:=by
 unfold JK
 refine yS (by simpa [strs]using h) ?_
 show k _
 have e:(strs M).set o (S v)=strs (M.set o v):=by simp[strs,List.map_set]
 rw[e];exact hk
theorem fD {LA:Nat->Nat} {H:HS} {b es:Nat} {e:TypeId} {xs:List SV} {zs:List yA} (h:WA H (LA b)=some (.X es e xs)) (hx:xs=strs zs):aE LA H b (.X es e (strs zs)):=by
 show WA H (LA b)=some (.X es e (YA LA (strs zs)))
 rw[h,hx,GO]
theorem cA.V {C:Cx} {f:Nat} {eB:List SV} {H:HS} {Y:Nat} {c0:Bool} {k:QD->Prop} {fn:Func} {zC:List SV} {H0:HS} {n0 len es:Nat} {e:TypeId} {zs:List yA} (M:List Nat) (hf:prog.funcs[f]? =some fn) (hP:C.P=prog) (Z:fn.body.isNone=false)
  (h:c0=true->Fn prog f zC H0 n0 (.s n0 0 len) [(n0,some (.X es e (strs zs)))] (n0+1)) (ho:iC H0=[]) (dB:MI M H0 n0 (n0+1) Y=true) (YC:eB=YA (mp M n0 (n0+1) Y) zC) (hH:c0=true->NI (mp M n0 (n0+1) Y) H H0) (hk:k ⟨.s Y 0 len,[(Y,some (.X es e (strs zs)))],Y+2,M⟩):cA C f eB H Y c0 k:=by
 have D:mp M n0 (n0+1) Y n0=Y:=by simp[mp]
 refine cA.F M hf hP Z h dB YC hH (s:= .s Y 0 len) (by simp only[SV.IB,D]) (wh:=[(Y,some (.X es e (strs zs)))]) (by simp[ED,ho,D,WA,lD,DA.IB]) ?_
 rw[show Y+(n0+1-n0)+1=Y+2 by omega];exact hk
def Ot (n w:Nat):MB {k:Nat//k<=w- (Lib.decDigits n).length}where
 F k:=[(1, .u (I w)),(5, .u (S [])),(6, .u (S (List.replicate k.1 48++Lib.decDigits n)))]
 H k:=[]
 n k:=0
theorem Pt (n:Int) (m:Nat) (h:0<=n/\n<100000) (hw:m<=10):Fn prog 189 [I n,I m] [] 0 (S (TF m n.toNat)) [] 0:=by
 have hi:Lib.itoa n=Lib.decDigits n.toNat:=by unfold Lib.itoa;rw[if_neg O]
 have hl:=GM (n:=n) O
 rw[hi]at hl
 refine fm (KA 65907) func189 λw W G g=> ?_
 repeat' (first
  |refine cF 8 rfl eA ?_
  |refine tk ?_
  |(refine AB 128 ?_;refine iJ (S (Lib.itoa n)) func128 rfl rfl (λ_=>nX n O) rfl rfl rfl ?_)
  |refine CA ?_|refine an ?_ ?_|(intro Z;try simp at Z))
 refine FB (Ot n.toNat m) (λk=>m- (Lib.decDigits n.toNat).length-k.1) ?_ ?_
 ·exact⟨⟨0,Nat.zero_le _⟩,[],U,eN ⟨rfl,rfl,by rw[hi];rfl,U⟩ U⟩
 ·rintro⟨k,hk⟩
  intro F H Y hF hH hn;dsimp only[Ot]at hF hH hn;subst hF hH hn
  have hs:(⟨(List.replicate k 48++Lib.decDigits n.toNat).toArray⟩:ByteArray).size=k+(Lib.decDigits n.toNat).length:=by rw[gL];simp
  repeat' (first
   |refine tk ?_
   |refine And.intro (λ_=>by rw[hs];simp only[gL,List.length_nil,List.length_cons];omega) ?_
   |refine CA ?_|refine an ?_ ?_|(intro Z;try simp at Z))
  ·exact⟨⟨k+1,O⟩,[],show m- (Lib.decDigits n.toNat).length- (k+1)<m- (Lib.decDigits n.toNat).length-k by omega,eN ⟨rfl,rfl,ka (by rw[IJ];rfl),U⟩ U⟩
  ·have e:k=m- (Lib.decDigits n.toNat).length:=O
   refine DB ?_ qA
   show SV.v (.string _)=S _
   rw[IJ,e];rfl
def jg:yA:=[50,48,48,54,48,49,48,50,84,49,53,48,52,48,53,90]
theorem Qt {t:Int} (h:0<=t/\t<315537897600):(1<=oA (t/86400)/\oA (t/86400)<10000)/\(1<=KB (t/86400)/\KB (t/86400)<=12)/\1<=JC (t/86400)/\JC (t/86400)<=fB (oA (t/86400)) (KB (t/86400))/\fB (oA (t/86400)) (KB (t/86400))<=31:=by
 have If:before 10000=3652059:=by decide
 have e1:before 1=0:=by decide
 have JI:=OJ (n:=t/86400) (y:=10000) O
 have JH:=rI (n:=t/86400) (y:=1) O
 have hm:1<=KB (t/86400)/\KB (t/86400)<=12:=OI _ _
 have hd:=mM (t/86400)
 have SK:= @OG (oA (t/86400)) (KB (t/86400))
 omega
theorem Rt (t:Int) (h:0<=t/\t<315537897600):Fn prog 134 [Tm t,S jg] [] 0 (S (DF t)) [] 0:=by
 obtain⟨D,h2,h3⟩:=Qt h
 have p4:(10:Nat)^4=10000:=by decide
 have p2:(10:Nat)^2=100:=by decide
 have hf:jg.length=16:=rfl
 have l1:=ZL (w:=4) (n:=(oA (t/86400)).toNat) O O
 have l2:=ZL (w:=2) (n:=(KB (t/86400)).toNat) O O
 have l3:=ZL (w:=2) (n:=(JC (t/86400)).toNat) O O
 have l4:=ZL (w:=2) (n:=(t%86400/3600).toNat) O O
 have l5:=ZL (w:=2) (n:=(t%86400/60%60).toNat) O O
 have l6:=ZL (w:=2) (n:=(t%86400%60).toNat) O O
 refine fm (KA 2039) func134 λw W G g=> ?_
 repeat' (first
  |refine tk ?_
  |refine cz 44 func44 (λ_=>oR t 0 O) ?_
  |refine cz 45 func45 (λ_=>CQ t 0 O) ?_
  |refine cz 189 func189 (λ_=>Pt _ 4 O O) ?_
  |refine cz 189 func189 (λ_=>Pt _ 2 O O) ?_
  |refine And.intro (λ_=>by simp only[ByteArray.size_append,gL,gI,List.length_cons,List.length_nil,List.length_take,List.length_drop];omega) ?_
  |refine And.intro (λ_=>by refine⟨O,by show(15:Int)<=16;omega,by show(16:Int)<=16;omega⟩) ?_
  |refine CA ?_|refine an ?_ ?_|(intro Z;try simp at Z))
 refine DB ?_ qA
 show SV.v (.string _)=S _
 rw[gI]
 simp only[IJ]
 rfl
theorem TCA (t:Int) (h:0<=t/\t<315537897600):Fn prog 130 [Tm t] [] 0 (S (DF t)) [] 0:=by
 refine fm (KA 7) func130 λw W G g=> ?_
 repeat' (first
  |refine tk ?_
  |refine cz 185 func185 (λ_=>o5 t 0) ?_
  |refine cz 134 func134 (λ_=>Rt t h) ?_
  |refine CA ?_|refine an ?_ ?_|(intro Z;try simp at Z))
 exact DB rfl qA
theorem UCA (t:Int) (h:0<=t/\t<315537897600):Fn prog 84 [Tm t] [] 0 (S (58::DF t)) [] 0:=by
 have hl:=CP h
 refine fm (KA 71) func84 λw W G g=> ?_
 repeat' (first
  |refine cF 6 rfl rfl ?_
  |refine tk ?_
  |refine cz 81 func81 (λ_=>sN t 0) ?_
  |refine cz 133 func133 (λ_=>j5) ?_
  |refine cz 134 func134 (λ_=>Rt t h) ?_
  |refine And.intro (λ_=>by simp only[ByteArray.size_append,gL,gI,List.length_cons,List.length_nil,List.length_take,List.length_drop];omega) ?_
  |refine CA ?_|refine an ?_ ?_|(intro Z;try simp at Z))
 refine DB ?_ qA
 show SV.v (.string _)=S _
 rw[IJ];rfl
theorem VCA {s:yA} {i:Nat} {c:UInt8} (h:i<s.length):((s.drop i).take (i+1-i)=[c])↔s.getD i 0=c:=by
 rw[show i+1-i=1 by omega,List.drop_eq_getElem_cons h,List.getD_eq_getElem?_getD,List.getElem?_eq_getElem h]
 show(s[i]::(s.drop (i+1)).take 0)=[c]↔s[i]=c
 simp
theorem WCA {c:UInt8}:∀{s:yA} {i:Nat},i<s.length->(∀j<i,s.getD j 0≠c)->s.getD i 0=c->KQ c s=i:=by
 intro s i hi h hx
 have hm:c∈s:=by
  rw[List.getD_eq_getElem?_getD,List.getElem?_eq_getElem hi]at hx
  exact hx▸List.getElem_mem hi
 have hs:s=s.take i++c::s.drop (i+1):=by
  have D:=List.take_append_drop i s
  rw[List.drop_eq_getElem_cons hi]at D
  rw[List.getD_eq_getElem?_getD,List.getElem?_eq_getElem hi]at hx
  simp only[Option.getD_some]at hx
  rw[hx]at D;exact D.symm
 have hn:c∉s.take i:=λhc=>by
  obtain⟨j,hj,e⟩:=List.getElem_of_mem hc
  have YV:j<i:=by rw[List.length_take]at hj;omega
  refine h j YV ?_
  rw[List.getD_eq_getElem?_getD,List.getElem?_eq_getElem O]
  rw[List.getElem_take]at e;simpa using e
 have:=Zq (r:=s.drop (i+1)) hn
 rw[<-hs,List.length_take]at this
 rw[this];congr 1;omega
theorem XCA {c:UInt8} {s:yA} (h:∀j<s.length,s.getD j 0≠c):KQ c s= -1:=Xq λhm=>by
 obtain⟨j,hj,e⟩:=List.getElem_of_mem hm
 exact h j hj (by rw[List.getD_eq_getElem?_getD,List.getElem?_eq_getElem hj];simpa using e)
def St (s:yA) (c:UInt8):MB {i:Nat//i<=s.length/\∀j<i,s.getD j 0≠c}where
 F i:=[(0, .u (S s)),(1, .u (S [c])),(5, .u (I i.1))]
 H i:=[]
 n i:=0
theorem YCA (s:yA) (c:UInt8) (hl:s.length<=1000000):Fn prog 164 [S s,S [c]] [] 0 (I (KQ c s)) [] 0:=by
 have D:(⟨[c].toArray⟩:ByteArray).size=1:=rfl
 have h2:(⟨s.toArray⟩:ByteArray).size=s.length:=rfl
 refine fm (KA 8392755) func164 λw W G g=> ?_
 repeat' (first
  |refine tk ?_
  |refine CA ?_|refine an ?_ ?_|(intro Z;try simp at Z))
 refine FB (St s c) (λi=>s.length-i.1) ?_ ?_
 ·exact⟨⟨0,O,by intro j hj;omega⟩,[],U,eN eF U⟩
 ·rintro⟨i,h3,h4⟩
  intro F H Y hF hH hn;dsimp only[St]at hF hH hn;subst hF hH hn
  by_cases hi:i<s.length
  ·have hx:(((⟨s.toArray⟩:ByteArray).extract ((i:Nat):Int).toNat (((i:Nat):Int)+(((⟨[c].toArray⟩:ByteArray).size:Nat):Int)).toNat).toList==(⟨[c].toArray⟩:ByteArray).toList)=decide (s.getD i 0=c):=by
    rw[D,gI,BB,show((i:Nat):Int).toNat=i by omega,show(((i:Nat):Int)+((1:Nat):Int)).toNat=i+1 by omega]
    exact decide_eq_decide.2 (VCA hi)
   repeat' (first
    |refine cT 12 rfl eA ?_
    |refine AD (t:=23) _ rfl hx (And.intro (λZ=> ?_) (λZ=> ?_))
    |refine tk ?_
    |refine And.intro (λ_=>⟨O,O,O⟩) ?_
    |refine CA ?_|refine an ?_ ?_|(intro Z;try simp at Z))
   ·exact DB (by rw[WCA hi h4 (of_decide_eq_true Z)];rfl) qA
   ·exact⟨⟨i+1,O,λj hj=>by rcases(by omega:j<i\/j=i)with h|h;exact h4 j h;subst h;exact of_decide_eq_false Z⟩,[],show s.length- (i+1)<s.length-i by omega,eN eF U⟩
  ·skip
   repeat' (first
    |refine cF 12 rfl eA ?_
    |refine tk ?_
    |refine CA ?_|refine an ?_ ?_|(intro Z;try simp at Z))
   exact DB (by rw[XCA (λj hj=>h4 j O)];rfl) qA
theorem ZCA {p r:yA} {c:UInt8}:(p++c::r).drop (p.length+1)=r:=by rw[show p++c::r=(p++[c])++r by simp,List.drop_left' (by simp)]
theorem pX {c:UInt8}:∀(ps:List yA),ps≠[]->(Lib.join ps [c]).length+1=(ps.map λp=>p.length+1).sum
 |[],h=>absurd rfl h
 |[p],_=>by rw[Lib.join_one];simp
 |p::q::r,_=>by
  have:=pX (c:=c) (q::r) (by simp)
  rw[wR,List.length_append,List.length_cons,List.map_cons,List.sum_cons]
  omega
def Tt (ps:List yA) (c:UInt8):MB {k:Nat//k<ps.length}where
 F k:=[(0, .u (S (Lib.join (ps.drop k.1) [c]))),(1, .u (S [c])),(5, .u (.s 0 0 k.1))]
 H k:=[(0,some (.X 1 9 (strs (ps.take k.1))))]
 n k:=1
theorem kQ (a b:List yA):strs a++strs b=strs (a++b):=by simp[strs]
theorem Ut {l:List yA} {i:Nat} (h:i<l.length):l.take (i+1)=l.take i++[l.getD i []]:=by
 rw[List.take_succ_eq_append_getElem h,List.getD_eq_getElem?_getD,List.getElem?_eq_getElem h];rfl
theorem HO (ps:List yA) (c:UInt8) (LC:ps≠[]) (hc:∀p∈ps,c∉p) (hn:ps.length<=100000) (hl:(Lib.join ps [c]).length<=1000000):
  Fn prog 114 [S (Lib.join ps [c]),S [c]] [] 0 (.s 0 0 ps.length) [(0,some (.X 1 9 (strs ps)))] 1:=by
 have D:(⟨[c].toArray⟩:ByteArray).size=1:=rfl
 have HE:0<ps.length:=List.length_pos_iff.2 LC
 refine fm (KA 2199560448499) func114 λw W G g=> ?_
 repeat' (first
  |refine cF 11 rfl (by rw[D];rfl) ?_
  |refine tk ?_
  |refine CA ?_|refine an ?_ ?_|(intro Z;try simp at Z))
 refine aG 5 1 9 rfl ?_
 refine FB (Tt ps c) (λk=>ps.length-k.1) ?_ ?_
 ·exact⟨⟨0,HE⟩,[],U,eN ⟨rfl,rfl,rfl,U⟩ ⟨fD rfl (by simp[strs]),U⟩⟩
 ·rintro⟨k,hk⟩
  intro F H Y hF hH hn;dsimp only[Tt]at hF hH hn;subst hF hH hn
  have hd:ps.drop k=ps.getD k []::ps.drop (k+1):=by rw[List.getD_eq_getElem?_getD,List.getElem?_eq_getElem hk];exact List.drop_eq_getElem_cons hk
  have Vt:c∉ps.getD k []:=by rw[List.getD_eq_getElem?_getD,List.getElem?_eq_getElem hk];exact hc _ (List.getElem_mem hk)
  have XV:(Lib.join (ps.drop k) [c]).length<=1000000:=by
   have e1:=pX (c:=c) ps LC
   have e2:=pX (c:=c) (ps.drop k) (by rw[hd];simp)
   have e3:(ps.map λp=>p.length+1).sum=((ps.take k).map λp=>p.length+1).sum+((ps.drop k).map λp=>p.length+1).sum:=by rw[<-List.sum_append,<-List.map_append,List.take_append_drop]
   omega
  have qX:=YCA (Lib.join (ps.drop k) [c]) c XV
  obtain⟨s,hs⟩:∃s,s=Lib.join (ps.drop k) [c]:=⟨_,rfl⟩
  rw[<-hs]at XV qX
  rw[<-hs]
  have h2:(⟨s.toArray⟩:ByteArray).size=s.length:=rfl
  have kg:(ps.take k).length=k:=by rw[List.length_take];omega
  by_cases bFA:k+1=ps.length
  ·have hJ:ps.drop (k+1)=[]:=List.drop_eq_nil_of_le O
   have uF:s=ps.getD k []:=by rw[hs,hd,hJ,Lib.join_one]
   have jE:KQ c s= -1:=by rw[uF];exact Xq Vt
   rw[jE]at qX
   repeat' (first
    |refine HD ?_
    |refine cT 41 rfl rfl ?_
    |refine tk ?_
    |refine cz 164 func164 (λ_=>qX) ?_
    |refine⟨by simp only[fI];omega,by first|exact UA|(simp[DA.cells,fI]),O,λ_=>(by intro s hs;simp[DA.cells]at hs;subst hs;rfl),λ_=>⟨by show _*16<=_;omega,by simp only[maxLen];omega⟩,?_⟩
    |refine CA ?_|refine an ?_ ?_|(intro Z;try simp at Z))
   exact⟨PD ⟨[(0,2)],eL [(0,2)] ⟨nC O,U⟩ ⟨fD rfl (by
    rw[List.take_of_length_le (by rw[fI];omega)]
    show strs (ps.take k)++strs [s]=_
    rw[kQ,uF,<-Ut hk,List.take_of_length_le O]),U⟩⟩⟩
  ·have hdq:∃q r,ps.drop (k+1)=q::r:=by
    cases e:ps.drop (k+1)with
    |nil=>have:=List.drop_eq_nil_iff.1 e;omega
    |cons q r=>exact⟨q,r,rfl⟩
   have uF:s=ps.getD k []++c::Lib.join (ps.drop (k+1)) [c]:=by
    obtain⟨q,r,e⟩:=hdq
    rw[hs,hd,e,wR]
   have jE:KQ c s=((ps.getD k []).length:Int):=by rw[uF];exact Zq Vt
   rw[jE]at qX
   have oB:(ps.getD k []).length+1<=s.length:=by rw[uF,List.length_append,List.length_cons];omega
   repeat' (first
    |refine cF 41 rfl eA ?_
    |refine tk ?_
    |refine cz 164 func164 (λ_=>qX) ?_
    |refine⟨by simp only[fI];omega,by first|exact UA|(simp[DA.cells,fI]),O,λ_=>(by intro s hs;simp[DA.cells]at hs;subst hs;rfl),λ_=>⟨by show _*16<=_;omega,by simp only[maxLen];omega⟩,?_⟩
    |refine And.intro (λ_=>⟨O,O,O⟩) ?_
    |refine CA ?_|refine an ?_ ?_|(intro Z;try simp at Z))
   exact⟨⟨k+1,O⟩,[(0,2)],show ps.length- (k+1)<ps.length-k by omega,eL [(0,2)] ⟨ka (by
    show ByteArray.extract _ _ _=_
    rw[D,h2,gI,show(((ps.getD k []).length:Int)+((1:Nat):Int)).toNat=(ps.getD k []).length+1 by omega,show((s.length:Nat):Int).toNat=s.length by omega,show s.drop ((ps.getD k []).length+1)=Lib.join (ps.drop (k+1)) [c]by rw[uF];exact ZCA]
    rw[List.take_of_length_le (by rw[uF,List.length_append,List.length_cons];omega)]),rfl,nC (by show(_:Nat)=k+1;omega),U⟩ ⟨fD rfl (by
    rw[List.take_of_length_le (by rw[fI];omega)]
    show strs (ps.take k)++[.v (.string _)]=_
    rw[gI,Ut hk,<-kQ]
    congr 2
    rw[uF];simp),U⟩⟩
def PN (d:yA) (i:Nat):Nat:=(Lib.decFrom 0 (d.take i)).getD 0
theorem Wt {b:UInt8} (h:CF b):Lib.digitVal b=some (b.toNat-48):=if_pos h
theorem aCA:∀(d:yA) (i:Nat),(∀b∈d,CF b)->Lib.decFrom 0 (d.take i)=some (PN d i):=by
 intro d i hd
 have key:∀(l:yA) (acc:Nat),(∀b∈l,CF b)->∃n,Lib.decFrom acc l=some n:=by
  intro l
  induction l with
  |nil=>intro acc _;exact⟨acc,rfl⟩
  |cons b l ih=>
   intro acc h
   unfold Lib.decFrom
   rw[Wt (h b (by simp))]
   exact ih _ (λx hx=>h x (by simp[hx]))
 obtain⟨n,hn⟩:=key (d.take i) 0 (λb Z=>hd b (List.mem_of_mem_take Z))
 unfold PN;rw[hn];rfl
theorem Xt {d:yA} {i:Nat} (h:i<d.length) (hd:∀b∈d,CF b):PN d (i+1)=PN d i*10+((d.getD i 0).toNat-48):=by
 have D:=aCA d i hd
 have hg:d[i]? =some (d.getD i 0):=by rw[List.getD_eq_getElem?_getD,List.getElem?_eq_getElem h];rfl
 have hm:CF (d.getD i 0):=hd _ (List.mem_of_getElem? hg)
 have:=Lib.decFrom_take d i 0 _ _ _ D hg (Wt hm)
 unfold PN;rw[this];rfl
theorem Yt {d:yA} (hd:∀b∈d,CF b):∀i,i<=d.length->PN d i<10^i
 |0,_=>by simp[PN,Lib.decFrom]
 |i+1,h=>by
  have D:=Yt hd i O
  rw[Xt O hd,Nat.pow_succ]
  have hg:d[i]? =some (d.getD i 0):=by rw[List.getD_eq_getElem?_getD,List.getElem?_eq_getElem O];rfl
  have hm:CF (d.getD i 0):=hd _ (List.mem_of_getElem? hg)
  unfold CF at hm
  omega
def Zt (d rest:yA):MB {i:Nat//i<=d.length}where
 F i:=[(0, .u (S (d++rest))),(1, .u (I d.length)),(7, .u (I (PN d i.1))),(8, .u (I i.1))]
 H i:=[]
 n i:=0
theorem bCA (d rest:yA) (hn:d.length<=6) (hd:∀b∈d,CF b) (v:Nat) (hv:Lib.decFrom 0 d=some v):Fn prog 205 [S (d++rest),I d.length] [] 0 (.jA [I v,S rest,B true]) [] 0:=by
 have hs:(⟨(d++rest).toArray⟩:ByteArray).size=d.length+rest.length:=by rw[gL,List.length_append]
 have hvp:PN d d.length=v:=by unfold PN;rw[List.take_length,hv];rfl
 refine fm (KA 268505587) func205 λw W G g=> ?_
 repeat' (first
  |refine cF 12 rfl (by rw[hs];simp;omega) ?_
  |refine tk ?_
  |refine CA ?_|refine an ?_ ?_|(intro Z;try simp at Z))
 refine FB (Zt d rest) (λi=>d.length-i.1) ?_ ?_
 ·exact⟨⟨0,Nat.zero_le _⟩,[],U,eN ⟨rfl,rfl,rfl,rfl,U⟩ U⟩
 ·rintro⟨i,hi⟩
  intro F H Y hF hH hn;dsimp only[Zt]at hF hH hn;subst hF hH hn
  by_cases fA:i<d.length
  ·have hg:d[i]? =some (d.getD i 0):=by rw[List.getD_eq_getElem?_getD,List.getElem?_eq_getElem fA];rfl
   have hm:CF (d.getD i 0):=hd _ (List.mem_of_getElem? hg)
   obtain⟨x,hx⟩:∃x:UInt8,x=(⟨(d++rest).toArray⟩:ByteArray).data.toList.getD ((i:Nat):Int).toNat 0:=⟨_,rfl⟩
   have hxd:x=d.getD i 0:=by
    rw[hx,show((i:Nat):Int).toNat=i by omega]
    show(d++rest).toArray.toList.getD i 0=_
    rw[List.toList_toArray,List.getD_eq_getElem?_getD,List.getD_eq_getElem?_getD,List.getElem?_append_left fA]
   have hp:=Xt fA hd
   have IG:=Yt hd i hi
   have cFA:10^i<=10^6:=Nat.pow_le_pow_right O O
   have hp6:(10:Nat)^6=1000000:=by decide
   rw[<-hxd]at hm hp
   unfold CF at hm
   have hw:IntKind.u8.wrap (((x.toNat:Nat):Int)-48)=((x.toNat:Nat):Int)-48:=Pk O
   repeat' (first
    |refine cT 16 rfl eA ?_
    |refine cF 28 rfl (by rw[<-hx];simp only[FM];simp;omega) ?_
    |refine tk ?_
    |refine And.intro (λ_=>by rw[hs];omega) ?_
    |refine And.intro (λ_=>by rw[<-hx,hw];exact NO (by unfold zA;omega)) ?_
    |refine And.intro (λ_=>by rw[<-hx,hw];unfold zA;omega) ?_
    |refine CA ?_|refine an ?_ ?_|(intro Z;try simp at Z))
   exact⟨⟨i+1,O⟩,[],show d.length- (i+1)<d.length-i by omega,eN ⟨rfl,rfl,bB (by rw[<-hx,hw];show _=((PN d (i+1):Nat):Int);rw[hp];omega),rfl,U⟩ U⟩
  ·have e:i=d.length:=O
   subst e
   repeat' (first
    |refine HD ?_
    |refine cF 16 rfl (by simp) ?_
    |refine tk ?_
    |refine And.intro (λ_=>by rw[hs];exact⟨O,O,O⟩) ?_
    |refine CA ?_|refine an ?_ ?_|(intro Z;try simp at Z))
   refine⟨PD ⟨[],eN ⟨?_,U⟩ U⟩⟩
   rw[hs,hvp,gI]
   show some (RV.u (SV.jA [I v, .v (.string ⟨_⟩),B true]))=some (RV.u (SV.jA [I v,S rest,B true]))
   rw[show((d.length:Nat):Int).toNat=d.length by omega,show((d.length+rest.length:Nat):Int).toNat=d.length+rest.length by omega,List.drop_left,List.take_of_length_le O]
theorem cCA (t:Int):DF t=TF 4 (oA (t/86400)).toNat++(TF 2 (KB (t/86400)).toNat++(TF 2 (JC (t/86400)).toNat++(84::(TF 2 (t%86400/3600).toNat++(TF 2 (t%86400/60%60).toNat++(TF 2 (t%86400%60).toNat++[90])))))):=by
 unfold DF;simp
theorem rU (m n:Nat) (rest:yA) (h:n<10^m) (hm:0<m/\m<=6):Fn prog 205 [S (TF m n++rest),I m] [] 0 (.jA [I n,S rest,B true]) [] 0:=by
 have hl:=ZL h hm.1
 have:=bCA (TF m n) rest O (MQ m n) n (D9 m n)
 rwa [hl]at this
def YS (ops:List yA) (key:yA) (l:List Int):List yA:=if l=[]then ops else ops++[key++61::Lib.join (l.map Lib.itoa) [44]]
theorem bt (n:Nat):cC (mE [SB []] n)=strs (List.replicate n []):=by
 rw[Gi,bg];simp
theorem dCA {a:List yA} {n:Nat} {x:yA}:(a++List.replicate (n+1) []).set a.length x=(a++[x])++List.replicate n []:=by
 simp[List.set_append,List.replicate_succ]
theorem eCA {l:List Int} {q:Nat} (h:q<l.length):(l.take (q+1)).map Lib.itoa=(l.take q).map Lib.itoa++[Lib.itoa (l.getD q 0)]:=by
 rw[List.take_succ_eq_append_getElem h,List.map_append,List.getD_eq_getElem?_getD,List.getElem?_eq_getElem h];simp
def ct (ops:List yA) (key:yA) (l:List Int):MB {i:Nat//i<=l.length}where
 F i:=[(0, .u (.s 0 0 ops.length)),(1, .u (S key)),(7, .u (.s 2 0 l.length)),(17, .u (.s 1 0 l.length)),(18, .u (I l.length)),(19, .u (I i.1))]
 H i:=[(0,some (.X 1 9 (strs ops))),(1,some (.ro (A l))),(2,some (.X 1 9 (strs ((l.take i.1).map Lib.itoa++List.replicate (l.length-i.1) []))))]
 n i:=3
theorem lg (l:List Int) (h:∀n∈l,-100000<n/\n<100000):(Lib.join (l.map Lib.itoa) [44]).length<=8*l.length:=by
 by_cases e:l=[]
 ·subst e;simp[Lib.join_nil]
 ·have D:=pX (c:=44) (l.map Lib.itoa) (by simpa using e)
  have h2:∀l:List Int,(∀n∈l,-100000<n/\n<100000)->((l.map Lib.itoa).map λ(p:yA)=>p.length+1).sum<=8*l.length:=by
   intro l
   induction l with
   |nil=>intro _;simp
   |cons a l ih=>
    intro h
    have h3:=ih (λn hn=>h n (by simp[hn]))
    have h4:=GM (n:=a) (by have:=h a (by simp);omega)
    simp only[List.map_cons,List.sum_cons,List.length_cons]at h3⊢
    omega
  have:=h2 l h
  omega
theorem LP (ops:List yA) (key:yA) (l:List Int) (ho:ops.length<=1000) (hk:key.length<=100) (hl:l.length<=1000) (Z:∀n∈l,-100000<n/\n<100000):
  Fn prog 131 [.s 0 0 ops.length,S key, .s 1 0 l.length] [(0,some (.X 1 9 (strs ops))),(1,some (.ro (A l)))] 2 (.s 2 0 (YS ops key l).length) [(2,some (.X 1 9 (strs (YS ops key l))))] 3:=by
 by_cases he:l=[]
 ·subst he
  have hA:YS ops key []=ops:=if_pos rfl
  rw[hA]
  refine fm (KA 1971143) func131 λw W G g=> ?_
  repeat' (first
   |refine cT 12 rfl rfl ?_
   |refine tk ?_
   |refine CA ?_|refine an ?_ ?_|(intro Z;try simp at Z))
  exact⟨[(2,0)],eL [(2,0)] ⟨rfl,U⟩ ⟨fD rfl rfl,U⟩⟩
 ·have hA:YS ops key l=ops++[key++61::Lib.join (l.map Lib.itoa) [44]]:=if_neg he
  have hlen:0<l.length:=List.length_pos_iff.2 he
  have hj:=lg l Z
  have DP:(⟨key.toArray⟩:ByteArray).size=key.length:=rfl
  have lQ:=fg (l.map Lib.itoa) 44 (by rw[List.length_map];omega) O
  rw[List.length_map]at lQ
  rw[hA]
  refine fm (KA 1971143) func131 λw W G g=> ?_
  repeat' (first
   |refine HD ?_
   |refine cF 12 rfl eA ?_
   |refine tk ?_
   |refine And.intro (λ_=>by refine⟨O,O,by show(16:Int)*_<=_;omega,O⟩) ?_
   |refine CA ?_|refine an ?_ ?_|(intro Z;try simp at Z))
  refine FB (ct ops key l) (λi=>l.length-i.1) ?_ ?_
  ·refine⟨⟨0,Nat.zero_le _⟩,[],U,eN eF ⟨fD rfl rfl,HA,fD rfl ?_,U⟩⟩
   rw[show((l.length:Nat):Int).toNat*1=l.length by omega]
   simp only[List.take_zero,List.map_nil,List.nil_append,Nat.sub_zero]
   exact bt _
  ·rintro⟨i,hi⟩
   intro F H Y hF hH hn;dsimp only[ct]at hF hH hn;subst hF hH hn
   have ej:0+(i:Int).toNat*1=i:=O
   have ZS:((l.take i).map Lib.itoa++List.replicate (l.length-i) []).length=l.length:=by simp;omega
   by_cases fA:i<l.length
   ·have hm: -100000<l.getD (0+(i:Int).toNat*1) 0/\l.getD (0+(i:Int).toNat*1) 0<100000:=by
     rw[ej,List.getD_eq_getElem?_getD,List.getElem?_eq_getElem fA];exact Z _ (List.getElem_mem fA)
    repeat' (first
     |refine cT 20 rfl eA ?_
     |refine tk ?_
     |(refine AB 128 ?_;refine iJ (S (Lib.itoa (l.getD (0+(i:Int).toNat*1) 0))) func128 rfl rfl (λ_=>nX _ hm) rfl rfl rfl ?_)
     |refine Nt (by rw[ZS];omega) ?_
     |refine CA ?_|refine an ?_ ?_|(intro Z;try simp at Z))
    refine⟨⟨i+1,O⟩,[],show l.length- (i+1)<l.length-i by omega,eN eF ⟨fD rfl rfl,HA,fD rfl ?_,U⟩⟩
    congr 1
    obtain⟨q,hq⟩:∃q,l.length-i=q+1:=⟨l.length-i-1,O⟩
    have mg:((l.take i).map Lib.itoa).length=i:=by rw[List.length_map,List.length_take];omega
    have:=dCA (a:=(l.take i).map Lib.itoa) (n:=q) (x:=Lib.itoa (l.getD i 0))
    rw[mg]at this
    rw[ej,hq]
    show _=(l.take (i+1)).map Lib.itoa++List.replicate (l.length- (i+1)) []
    rw[eCA fA,show l.length- (i+1)=q by omega]
    exact this
   ·have hq:i=l.length:=O
    subst hq
    have e2:(l.take l.length).map Lib.itoa++List.replicate (l.length-l.length) []=l.map Lib.itoa:=by rw[List.take_length,Nat.sub_self];simp
    rw[e2]
    repeat' (first
     |refine HD ?_
     |refine cF 20 rfl (by simp) ?_
     |refine tk ?_
     |refine cr 132 [2] func132 (λ_=>lQ) (λ_=>⟨⟨O,cg _ _,_,[],rfl,by simp[DA.cells]⟩,U⟩) ?_
     |refine And.intro (λ_=>by simp only[ByteArray.size_append,gL,gI,List.length_cons,List.length_nil,List.length_take,List.length_drop];omega) ?_
     |refine⟨by simp only[fI];omega,by first|exact UA|(simp[DA.cells,fI]),O,λ_=>(by intro s hs;simp[DA.cells]at hs;subst hs;rfl),λ_=>⟨by show _*16<=_;omega,by simp only[maxLen];omega⟩,?_⟩
     |refine CA ?_|refine an ?_ ?_|(intro Z;try simp at Z))
    exact⟨PD ⟨[(2,4)],eL [(2,4)] ⟨nC (by simp),U⟩ ⟨fD rfl (by
     rw[List.take_of_length_le (by rw[fI];omega)]
     show strs ops++[.v (.string _)]=_
     rw[IJ,IJ,<-kQ];simp[strs]),U⟩⟩⟩
theorem fCA (t:Int) (h:0<=t/\t<315537897600):Fn prog 170 [S jg,S (DF t)] [] 0 (.jA [Tm t, .v .nilIface]) [] 0:=by
 obtain⟨D,h2,h3⟩:=Qt h
 have OD:=iP (t/86400)
 have oG:=cCA t
 obtain⟨qK,hY⟩:∃qK,qK=oA (t/86400):=⟨_,rfl⟩
 obtain⟨M,hM⟩:∃M,M=KB (t/86400):=⟨_,rfl⟩
 obtain⟨DC,hD⟩:∃DC,DC=JC (t/86400):=⟨_,rfl⟩
 obtain⟨h',hh⟩:∃x,x=t%86400/3600:=⟨_,rfl⟩
 obtain⟨mi,HU⟩:∃x,x=t%86400/60%60:=⟨_,rfl⟩
 obtain⟨s,hs⟩:∃x,x=t%86400%60:=⟨_,rfl⟩
 simp only[<-hY,<-hM,<-hD]at D h2 h3 OD
 simp only[<-hY,<-hM,<-hD,<-hh,<-HU,<-hs]at oG
 have p4:(10:Nat)^4=10000:=by decide
 have p2:(10:Nat)^2=100:=by decide
 obtain⟨R6,ft⟩:∃R6:yA,R6=[90]:=⟨_,rfl⟩
 obtain⟨R5,ng⟩:∃R5,R5=TF 2 s.toNat++R6:=⟨_,rfl⟩
 obtain⟨R4,og⟩:∃R4,R4=TF 2 mi.toNat++R5:=⟨_,rfl⟩
 obtain⟨R3,pg⟩:∃R3,R3=TF 2 h'.toNat++R4:=⟨_,rfl⟩
 obtain⟨R2,UX⟩:∃R2,R2=TF 2 DC.toNat++84::R3:=⟨_,rfl⟩
 obtain⟨R1,qg⟩:∃R1,R1=TF 2 M.toNat++R2:=⟨_,rfl⟩
 have jt:DF t=TF 4 qK.toNat++R1:=by rw[oG,qg,UX,pg,og,ng,ft]
 have pY:=rU 4 qK.toNat R1 O O
 have pM:=rU 2 M.toNat R2 O O
 have pD:=rU 2 DC.toNat (84::R3) O O
 have pH:=rU 2 h'.toNat R4 O O
 have pI:=rU 2 mi.toNat R5 O O
 have pS:=rU 2 s.toNat R6 O O
 rw[show((qK.toNat:Nat):Int)=qK by omega,<-jt]at pY
 rw[show((M.toNat:Nat):Int)=M by omega,<-qg]at pM
 rw[show((DC.toNat:Nat):Int)=DC by omega,<-UX]at pD
 rw[show((h'.toNat:Nat):Int)=h' by omega,<-pg]at pH
 rw[show((mi.toNat:Nat):Int)=mi by omega,<-og]at pI
 rw[show((s.toNat:Nat):Int)=s by omega,<-ng]at pS
 rw[ft]at pS
 have hT:KD qK M DC*86400+h'*3600+mi*60+s=t:=by rw[XK h2,OD];omega
 have eH1:[SV.v (.string ((⟨(84::R3).toArray⟩:ByteArray).extract ((1:Int).toNat) (((⟨(84::R3).toArray⟩:ByteArray).size:Nat):Int).toNat)),I 2]=[S R3,I ((2:Nat):Int)]:=by
  rw[gI,gL]
  show[S (((84::R3).drop 1).take (((84::R3).length:Int).toNat-1)),I 2]=_
  rw[List.drop_one,List.tail_cons,List.take_of_length_le (by rw[List.length_cons];omega)];rfl
 have fM:(0<=h'/\h'<=23)/\(0<=mi/\mi<=59)/\0<=s/\s<=59:=O
 clear qg UX pg og ng oG jt hY hM hD hh HU hs
 have gCA:(if(if(!((⟨[90].toArray⟩:ByteArray).toList==(⟨[90].toArray⟩:ByteArray).toList))=true then true else decide (DC<1))=true then true else decide (DC>fB qK M))=false:=by
  rw[BB];simp;omega
 refine fm (KA 12259964329781649808422960012890000792408012588251742195) func170 λw W G g=> ?_
 repeat' (first
  |refine HD ?_
  |refine cF 25 rfl (by first|rfl|(simp;done)|(simp;omega)) ?_
  |refine cF 43 rfl (by first|rfl|(simp;done)|(simp;omega)) ?_
  |refine cF 53 rfl (by first|rfl|(simp;done)|(simp;omega)) ?_
  |refine cT 59 rfl (by first|rfl|(simp;done)|(simp;omega)) ?_
  |refine cF 67 rfl (by first|rfl|(simp;done)|(simp;omega)) ?_
  |refine cF 82 rfl (by first|rfl|(simp;done)|(simp;omega)) ?_
  |refine cF 96 rfl (by first|rfl|(simp;done)|(simp;omega)) ?_
  |refine cF 110 rfl (by first|rfl|(simp;done)|(simp;omega)) ?_
  |refine cF 135 rfl (by first|rfl|(simp;done)|(simp;omega)) ?_
  |refine cF 183 rfl gCA ?_
  |refine pC (x:= .region 12 _ _) [(0, .u (S [84,49,53,48,52,48,53,90])),(1, .u (S (84::R3))),(4, .u (.p 0 0)),(7, .u (I qK)),(9, .u (I M)),(10, .u (I DC)),(11, .u (I 0)),(12, .u (I 0)),(13, .u (I 0)),(14, .u (I 0))] [(0,some (.st (A [0,0])))] 1 ?_ ?_
  |refine pC (x:= .seq (.region 12 _ _) _) [(0, .u (S [90])),(1, .u (S [90])),(4, .u (.p 0 0)),(7, .u (I qK)),(9, .u (I M)),(10, .u (I DC)),(11, .u (I h')),(12, .u (I mi)),(13, .u (I s)),(14, .u (I 0))] [(0,some (.st (A [0,0])))] 1 ?_ ?_
  |refine tk ?_
  |(refine AB 71 ?_;refine cA.F [] func71 rfl rfl (λ_=>Oe _) rfl rfl (λ_=>U) rfl rfl ?_)
  |refine cz 205 func205 (λ_=>pY) ?_
  |refine cz 205 func205 (λ_=>pM) ?_
  |refine cz 205 func205 (λ_=>pD) ?_
  |(refine AB 205 ?_;refine ma func205 rfl rfl (λ_=>pH) eH1 rfl rfl ?_)
  |refine cz 205 func205 (λ_=>pI) ?_
  |refine cz 205 func205 (λ_=>pS) ?_
  |refine cz 86 func86 (λ_=>Ge M qK O) ?_
  |refine cz 80 func80 (λ_=>EN qK M DC h' mi s O O O O O O) ?_
  |refine And.intro (λ_=>by exact⟨by decide,by decide,by decide⟩) ?_
  |refine And.intro (by decide) ?_
  |refine And.intro (λ_=>by show 0<=(1:Int)/\(1:Int)<=((84::R3).length:Int)/\((84::R3).length:Int)<=((84::R3).length:Int);rw[List.length_cons];omega) ?_
  |refine And.intro (λ_=>by show(0:Int)<=0/\(0:Int)<((84::R3).length:Int);rw[List.length_cons];omega) ?_
  |refine CA ?_|refine an ?_ ?_|(intro Z;try simp at Z))
 ·refine⟨[],eN ⟨ka (by rw[gI];rfl),rfl,rfl,rfl,rfl,rfl,rfl,rfl,rfl,rfl,U⟩ ⟨rfl,U⟩⟩
 ·refine⟨[],eN ⟨ka (by rw[gI];rfl),rfl,rfl,rfl,rfl,rfl,rfl,rfl,rfl,rfl,U⟩ ⟨rfl,U⟩⟩
 ·exact⟨PD ⟨[],eN ⟨by rw[<-hT];rfl,U⟩ U⟩⟩
theorem nt (t:Int) (h:0<=t/\t<315537897600):Fn prog 119 [S (DF t), .agg []] [] 0 (.jA [Tm t, .v .nilIface]) [] 0:=by
 have hl:(⟨(DF t).toArray⟩:ByteArray).size=16:=CP h
 refine fm (KA 65851) func119 λw W G g=> ?_
 repeat' (first
  |refine cF 8 rfl (by rw[hl];rfl) ?_
  |refine cF 16 rfl (by rw[hl];rfl) ?_
  |refine tk ?_
  |refine cz 170 func170 (λ_=>fCA t h) ?_
  |refine CA ?_|refine an ?_ ?_|(intro Z;try simp at Z))
 exact⟨[],eN ⟨rfl,U⟩ U⟩
theorem hCA (t:Int) (h:0<=t/\t<315537897600):Fn prog 116 [S (DF t), .agg []] [] 0 (.jA [Tm t, .v .nilIface]) [] 0:=by
 have hl:=CP h
 have qG:=HO [DF t] 58 (by simp) (λp hp=>by simp at hp;subst hp;exact(oq t).nm (by decide)) (by simp) (by rw[Lib.join_one];omega)
 rw[Lib.join_one]at qG
 refine fm (KA 4303618555) func116 λw W G g=> ?_
 repeat' (first
  |refine cF 18 rfl rfl ?_
  |refine cF 23 rfl rfl ?_
  |refine tk ?_
  |(refine AB 114 ?_;refine cA.V [] func114 rfl rfl (λ_=>qG) rfl rfl rfl (λ_=>U) ?_)
  |refine And.intro (λ_=>by show(0:Int)<=0/\(0:Int)<1;omega) ?_
  |refine cz 119 func119 (λ_=>nt t h) ?_
  |refine CA ?_|refine an ?_ ?_|(intro Z;try simp at Z))
 exact⟨[],eN ⟨rfl,U⟩ U⟩
def MP (ch:yA):yA->Nat->Int
 |[],_=> -1
 |b::r,k=>if b∈ch then(k:Int)else MP ch r (k+1)
theorem eqK {C:Cx} {o:Oper} {F:FS} {H:HS} {Y:Nat} {c0:Bool} {k:IntKind} {a b:Int} {t t':TypeId} {x y:Operand} (ho:o.op= .binOp .eql t x y t') (hx:zB F c0 x λs=>s= .v (.int k a)) (hy:zB F c0 y λs=>s= .v (.int k b)):JB C.P C.w0 C.W C.N o F H Y c0 ⟨.v (.bool (a==b)),[],Y,[]⟩:=by
 obtain⟨_,rfl,hx⟩:=QC hx
 obtain⟨_,rfl,hy⟩:=QC hy
 refine JB.dH λhc F' G a w hF hS=> ?_
 have dx:=hx F' G a hc (hF x (by simp[ZB,ho,Op.operands])) hS
 have dy:=hy F' G a hc (hF y (by simp[ZB,ho,Op.operands])) hS
 simp only[aA]at dx dy
 simp[execOp,ho,dx,dy,eqGuard,binOp,Op.intCmp]
def ot (s ch:yA) (R:Int):MB {k:Nat//k<=s.length/\MP ch (s.drop k) k=R}where
 F k:=[(1, .u (S ch)),(10, .u (.p 0 0))]
 H k:=[(0,some (.obj (.stringIter ⟨s.toArray⟩ k.1)))]
 n k:=1
def pt (s ch:yA) (k:Nat) (b:UInt8):MB {j:Nat//j<=ch.length/\∀i<j,ch.getD i 0≠b}where
 F j:=[(1, .u (S ch)),(10, .u (.p 0 0)),(5, .u (I k)),(6, .u (.v (.int .i32 ((b.toNat:Nat):Int)))),(16, .u (.p 1 0))]
 H j:=[(0,some (.obj (.stringIter ⟨s.toArray⟩ (k+1)))),(1,some (.obj (.stringIter ⟨ch.toArray⟩ j.1)))]
 n j:=2
theorem iCA {l:yA} {b:UInt8} (h:∀i<l.length,l.getD i 0≠b):b∉l:=λhm=>by
 obtain⟨j,hj,e⟩:=List.getElem_of_mem hm
 exact h j hj (by rw[List.getD_eq_getElem?_getD,List.getElem?_eq_getElem hj];simpa using e)
theorem qt (s ch:yA) (hs:∀b∈s,b.toNat<128) (hc:∀b∈ch,b.toNat<128):Fn prog 166 [S s,S ch] [] 0 (I (MP ch s 0)) [] 0:=by
 obtain⟨R,hR⟩:∃R,R=MP ch s 0:=⟨_,rfl⟩
 rw[<-hR]
 refine fm (KA 4660595) func166 λw W G g=> ?_
 repeat' (first
  |refine tk ?_
  |refine⟨_,rq (i:=WY) rfl rfl rfl rfl,?_⟩
  |refine CA ?_|refine an ?_ ?_|(intro Z;try simp at Z))
 refine FB (ot s ch R) (λk=>s.length-k.1) ?_ ?_
 ·exact⟨⟨0,Nat.zero_le _,hR.symm⟩,[],U,eN eF eH⟩
 ·rintro⟨k,D,h2⟩
  intro F H Y hF hH hn;dsimp only[ot]at hF hH hn;subst hF hH hn
  by_cases hk:k<s.length
  ·have hg:s[k]? =some (s.getD k 0):=by rw[List.getD_eq_getElem?_getD,List.getElem?_eq_getElem hk];rfl
   have ZD:s.drop k=s.getD k 0::s.drop (k+1):=by rw[List.getD_eq_getElem?_getD,List.getElem?_eq_getElem hk];exact List.drop_eq_getElem_cons hk
   have ha:=hs _ (List.mem_of_getElem? hg)
   obtain⟨b,bE⟩:∃b,b=s.getD k 0:=⟨_,rfl⟩
   rw[<-bE]at hg ha ZD
   rw[ZD]at h2
   unfold MP at h2
   repeat' (first
    |refine cT 12 rfl rfl ?_
    |refine tk ?_
    |refine⟨_,rq (i:=WY) rfl rfl rfl rfl,?_⟩
    |refine⟨_,sq hg ha rfl rfl rfl,?_⟩
    |refine CA ?_|refine an ?_ ?_|(intro Z;try simp at Z))
   refine FB (pt s ch k b) (λj=>ch.length-j.1) ?_ ?_
   ·exact⟨⟨0,Nat.zero_le _,by intro i hi;omega⟩,[],U,eN eF eH⟩
   ·rintro⟨j,h3,h4⟩
    intro F H Y hF hH hn;dsimp only[pt]at hF hH hn;subst hF hH hn
    by_cases hj:j<ch.length
    ·have sg:ch[j]? =some (ch.getD j 0):=by rw[List.getD_eq_getElem?_getD,List.getElem?_eq_getElem hj];rfl
     have haj:=hc _ (List.mem_of_getElem? sg)
     have jCA:(((b.toNat:Nat):Int)==(((ch.getD j 0).toNat:Nat):Int))=decide (ch.getD j 0=b):=by
      rw[Bool.eq_iff_iff,beq_iff_eq,decide_eq_true_eq,<-UInt8.toNat_inj];omega
     repeat' (first
      |refine cT 18 rfl rfl ?_
      |refine AD (t:=22) _ rfl jCA (And.intro (λZ=> ?_) (λZ=> ?_))
      |refine tk ?_
      |refine⟨_,sq sg haj rfl rfl rfl,?_⟩
      |refine⟨_,eqK rfl rfl rfl,?_⟩
      |refine CA ?_|refine an ?_ ?_|(intro Z;try simp at Z))
     ·have hm:b∈ch:=by have:=of_decide_eq_true Z;rw[<-this];exact List.mem_of_getElem? sg
      rw[if_pos hm]at h2
      subst h2
      exact DB rfl qA
     ·exact⟨⟨j+1,O,λi hi=>by rcases(by omega:i<j\/i=j)with h|h;exact h4 i h;subst h;exact of_decide_eq_false Z⟩,[],show ch.length- (j+1)<ch.length-j by omega,eN eF eH⟩
    ·have hn:b∉ch:=iCA λi hi=>h4 i O
     rw[if_neg hn]at h2
     repeat' (first
      |refine cF 18 rfl rfl ?_
      |refine tk ?_
      |refine⟨_,uq O rfl rfl rfl,?_⟩
      |refine CA ?_|refine an ?_ ?_|(intro Z;try simp at Z))
     exact⟨⟨k+1,hk,h2⟩,[],show s.length- (k+1)<s.length-k by omega,eN eF eH⟩
  ·have PG:s.drop k=[]:=List.drop_eq_nil_of_le O
   rw[PG]at h2
   unfold MP at h2
   subst h2
   repeat' (first
    |refine cF 12 rfl rfl ?_
    |refine tk ?_
    |refine⟨_,uq O rfl rfl rfl,?_⟩
    |refine CA ?_|refine an ?_ ?_|(intro Z;try simp at Z))
   exact DB rfl qA
end En
end Go.Proofs.YtkidgehblodbcaaGreatDoor
